import PyProof.Rows.All
import Wide.All
import OpenK.AllK
import Wide.FinOn
import Lean
import PySem.Challenge.RW_dw5011_03
set_option Elab.async false
set_option maxRecDepth 100000
set_option linter.unusedVariables false
section
open PySem PySem.W PyProof.Rows PySem.Calls
namespace Mine

section
variable {p : Program} {w : World} {n₀ : Nat} {ann : Option Value}

theorem segGo_add : ∀ {n m : Nat} {s s1 : Shared} {t t1 : Thread} {r : Shared × Thread}, segGo treeTable p w n₀ ann 1 n s t = some (s1, t1) →
    segGo treeTable p w n₀ ann 1 m s1 t1 = some r → segGo treeTable p w n₀ ann 1 (n + m) s t = some r
  | 0, m, s, s1, t, t1, r, h, k => by
    obtain ⟨rfl, rfl⟩ : s = s1 ∧ t = t1 := by simpa [segGo] using h
    rw [Nat.zero_add]; exact k
  | n + 1, m, s, s1, t, t1, r, h, k => by
    rw [show n + 1 + m = n + m + 1 by omega]
    unfold segGo at h ⊢
    cases he : endAt 1 t with
    | some f => rw [he] at h; cases h
    | none =>
      rw [he] at h
      cases hk : stepOk n₀ ann t with
      | false => rw [hk] at h; cases h
      | true =>
        rw [hk] at h
        cases hs : step (denote treeTable) p w s t with
        | halt o s' => rw [hs] at h; cases h
        | go s' t' => rw [hs] at h; exact segGo_add h k

variable (p w n₀ ann) in
/-- it comes there in so many steps -/
def Reach (n : Nat) (s : Shared) (t : Thread) (s' : Shared) (t' : Thread) : Prop := segGo treeTable p w n₀ ann 1 n s t = some (s', t')

theorem Reach.rfl' {s : Shared} {t : Thread} : Reach p w n₀ ann 0 s t s t := rfl
theorem Reach.trans {n n' : Nat} {s s1 s2 : Shared} {t t1 t2 : Thread} (h : Reach p w n₀ ann n s t s1 t1) (k : Reach p w n₀ ann n' s1 t1 s2 t2) : Reach p w n₀ ann (n + n') s t s2 t2 := segGo_add h k
theorem Reach.one {s s1 : Shared} {t t1 : Thread} (h1 : endAt 1 t = none) (h2 : stepOk n₀ ann t = true) (h3 : step (denote treeTable) p w s t = .go s1 t1) : Reach p w n₀ ann 1 s t s1 t1 := by
  unfold Reach segGo; rw [h1, h2, h3]; rfl

variable (p w n₀ ann) in
/-- m: the steps told so far -/
def Wp (c : Code) (st : List Frame) {α : Type} (t : Sem α) (Q : α → Pos → Shared → Nat → Prop) (pos : Pos) (s : Shared) (m : Nat) : Prop :=
  ∃ a pos' s' n, Q a pos' s' (m + n) ∧ ∀ (K : α → Sem Fin) (H : Value → Sem Fin) (gd : Bool → Bool) (lv : List Value → List Value),
    Reach p w n₀ ann n s ⟨t.wrap K H gd lv, c, pos, st⟩ s' ⟨K a, c, pos', st⟩

section
variable {c : Code} {st : List Frame} {α β : Type} {pos : Pos} {s : Shared} {m : Nat}
theorem Wp.pure {a : α} {Q : α → Pos → Shared → Nat → Prop} (h : Q a pos s m) : Wp p w n₀ ann c st (.pure a) Q pos s m := ⟨a, pos, s, 0, h, fun _ _ _ _ => .rfl'⟩
theorem Wp.bind {t : Sem α} {f : α → Sem β} {Q : β → Pos → Shared → Nat → Prop} (h : Wp p w n₀ ann c st t (fun a pos' s' n => Wp p w n₀ ann c st (f a) Q pos' s' n) pos s m) :
    Wp p w n₀ ann c st (t >>= f) Q pos s m := by
  obtain ⟨a, p1, s1, n1, ⟨x, p2, s2, n2, hQ, h2⟩, h1⟩ := h
  refine ⟨x, p2, s2, n1 + n2, by rw [← Nat.add_assoc]; exact hQ, fun K H gd lv => ?_⟩
  have e : (t >>= f).wrap K H gd lv = t.wrap (fun a => (f a).wrap K H gd lv) H gd lv := by
    rw [Sem.bind_eq_wrap', Sem.wrap_wrap]; rfl
  rw [e]
  exact (h1 _ H gd lv).trans (h2 K H gd lv)
theorem Wp.keep {t : Sem α} {Q : α → Pos → Shared → Nat → Prop} {vs : List Value} (h : Wp p w n₀ ann c st t Q pos s m) : Wp p w n₀ ann c st (t.keep vs) Q pos s m := by
  obtain ⟨a, p1, s1, n1, hQ, h1⟩ := h
  refine ⟨a, p1, s1, n1, hQ, fun K H gd lv => ?_⟩
  have e : (t.keep vs).wrap K H gd lv = t.wrap K H gd (fun l => lv (vs ++ l)) := by
    rw [Sem.keep_eq_wrap, Sem.wrap_wrap]; rfl
  rw [e]
  exact h1 K H gd _
theorem Wp.holding {t : Sem α} {Q : α → Pos → Shared → Nat → Prop} {vs : List Value} (h : Wp p w n₀ ann c st t Q pos s m) : Wp p w n₀ ann c st (holding vs t) Q pos s m := by
  unfold PySem.holding
  split
  · exact h
  · exact h.keep
theorem Wp.onRaise {t : Sem α} {Q : α → Pos → Shared → Nat → Prop} {g : Value → Sem Unit} (h : Wp p w n₀ ann c st t Q pos s m) : Wp p w n₀ ann c st (t.onRaise g) Q pos s m := by
  obtain ⟨a, p1, s1, n1, hQ, h1⟩ := h
  refine ⟨a, p1, s1, n1, hQ, fun K H gd lv => ?_⟩
  rw [Sem.onRaise_eq_wrap, Sem.wrap_wrap]
  exact h1 _ _ _ _
theorem Wp.mono {t : Sem α} {Q Q' : α → Pos → Shared → Nat → Prop} (h : Wp p w n₀ ann c st t Q pos s m) (k : ∀ a p' s' n, Q a p' s' n → Q' a p' s' n) : Wp p w n₀ ann c st t Q' pos s m := by
  obtain ⟨a, p1, s1, n1, hQ, h1⟩ := h
  exact ⟨a, p1, s1, n1, k _ _ _ _ hQ, h1⟩

theorem Wp.node {n : Nat} {t : Sem α} {Q : α → Pos → Shared → Nat → Prop} {pos' : Pos} {s' : Shared} {t' : Sem α} (h : ∀ K H gd lv, Reach p w n₀ ann n s ⟨t.wrap K H gd lv, c, pos, st⟩ s' ⟨t'.wrap K H gd lv, c, pos', st⟩)
    (k : Wp p w n₀ ann c st t' Q pos' s' (m + n)) : Wp p w n₀ ann c st t Q pos s m := by
  obtain ⟨a, p1, s1, n1, hQ, h1⟩ := k
  exact ⟨a, p1, s1, n + n1, by rw [← Nat.add_assoc]; exact hQ, fun K H gd lv => (h K H gd lv).trans (h1 K H gd lv)⟩

theorem Wp.loadN {a : Addr} {part : Option Value} {k : Obj → Sem α} {o : Obj} {Q : α → Pos → Shared → Nat → Prop} (ho : s.heap.get? a = some o) (h : Wp p w n₀ ann c st (k o) Q pos s (m + 1)) : Wp p w n₀ ann c st (.load a part k) Q pos s m := by
  refine .node (fun K H gd lv => ?_) h
  refine .one (by unfold endAt Sem.wrap; split <;> simp_all) rfl ?_
  obtain ⟨hp, g, d, tk, os⟩ := s
  simp only [Sem.wrap, step]
  rw [show hp.get? a = some o from ho]
theorem Wp.updateN {a : Addr} {part : Option Value} {f : Obj → Obj} {k : Unit → Sem α} {Q : α → Pos → Shared → Nat → Prop} (ho : (s.heap.get? a).isSome = true) (hn : n₀ ≤ a) (h : Wp p w n₀ ann c st (k ()) Q pos { s with heap := s.heap.update a f } (m + 1)) :
    Wp p w n₀ ann c st (.update a part f k) Q pos s m := by
  refine .node (fun K H gd lv => ?_) h
  refine .one (by unfold endAt Sem.wrap; split <;> simp_all) ?_ ?_
  · have : Nat.ble n₀ a = true := Nat.ble_eq_true_of_le hn
    unfold stepOk
    simp only [Sem.wrap, this, Bool.true_or, Bool.and_true]
    rfl
  obtain ⟨hp, g, d, tk, os⟩ := s
  simp only [Sem.wrap, step]
  rw [if_pos ho]
theorem Wp.allocN {o : Obj} {k : Addr → Sem α} {Q : α → Pos → Shared → Nat → Prop} (h : Wp p w n₀ ann c st (k s.heap.objs.size) Q pos { s with heap := s.heap.push o } (m + 1)) : Wp p w n₀ ann c st (.alloc o k) Q pos s m := by
  refine .node (fun K H gd lv => ?_) h
  exact .one (by unfold endAt Sem.wrap; split <;> simp_all) rfl rfl
theorem Wp.freshN {k : Tok → Sem α} {Q : α → Pos → Shared → Nat → Prop} (h : Wp p w n₀ ann c st (k s.toks) Q pos { s with toks := s.toks + 1 } (m + 1)) : Wp p w n₀ ann c st (.fresh k) Q pos s m := by
  refine .node (fun K H gd lv => ?_) h
  exact .one (by unfold endAt Sem.wrap; split <;> simp_all) rfl rfl
theorem Wp.ruleN {r : String} {k : Unit → Sem α} {Q : α → Pos → Shared → Nat → Prop} (h : Wp p w n₀ ann c st (k ()) Q pos s (m + 1)) : Wp p w n₀ ann c st (.rule r k) Q pos s m := by
  refine .node (fun K H gd lv => ?_) h
  exact .one (by unfold endAt Sem.wrap; split <;> simp_all) rfl rfl
theorem Wp.atN {q : Pos} {k : Unit → Sem α} {Q : α → Pos → Shared → Nat → Prop} (h : Wp p w n₀ ann c st (k ()) Q q s (m + 1)) : Wp p w n₀ ann c st (.at q k) Q pos s m := by
  refine .node (fun K H gd lv => ?_) h
  exact .one (by unfold endAt Sem.wrap; split <;> simp_all) rfl rfl
theorem Wp.askN {k : Setting → Sem α} {Q : α → Pos → Shared → Nat → Prop} (h : Wp p w n₀ ann c st (k ⟨p, w.params⟩) Q pos s (m + 1)) : Wp p w n₀ ann c st (.ask k) Q pos s m := by
  refine .node (fun K H gd lv => ?_) h
  exact .one (by unfold endAt Sem.wrap; split <;> simp_all) rfl rfl
end
end
end Mine

namespace Mine
theorem den_call_hash (i : Int) (t : Tok) : denote treeTable (.call (.builtin "int.__hash__") ⟨[.int i t], []⟩) = .pure (.again (.builtin "int.__hash__" ⟨[.int i t], []⟩)) := by kernel_rfl
theorem den_hash (i : Int) (t : Tok) : denote treeTable (.builtin "int.__hash__" ⟨[.int i t], []⟩) = .fresh fun u => .pure (.done (.ret (.int (rawHash i) u))) := by kernel_rfl
theorem hash_slot (i : Int) (t : Tok) : specialOf (.int i t) "__hash__" = (pure (some (.builtin "int.__hash__")) : Sem (Option Value)) := by kernel_rfl
theorem hash_bindSpecial (i : Int) (t : Tok) : bindSpecial (.builtin "int.__hash__") (.int i t) = (pure (.builtin "int.__hash__", [.int i t]) : Sem (Value × List Value)) := by kernel_rfl

section
variable {p : Program} {w : World} {n₀ : Nat} {ann : Option Value} {c : Code} {fr : Frame} {st : List Frame} {pos : Pos} {s : Shared} {m : Nat}

theorem Wp.call_hash {α : Type} {i : Int} {t : Tok} {g : Bool} {l : List Value} {k : Result → Sem α} {Q : α → Pos → Shared → Nat → Prop}
    (h : Wp p w n₀ ann c (fr :: st) (k (.ok (.ret (.int (rawHash i) s.toks)))) Q pos { s with toks := s.toks + 1 } (m + (1 + (1 + (1 + 1))))) :
    Wp p w n₀ ann c (fr :: st) (.call (.call (.builtin "int.__hash__") ⟨[.int i t], []⟩) none g l k) Q pos s m := by
  refine .node (fun K H gd lv => ?_) h
  obtain ⟨hp, gs, d, tk, os⟩ := s
  have e2 : ∀ (x : Frame) (l : List Frame), ((x :: fr :: l).length == 1) = false := fun x l => by simp
  refine .trans (s1 := ⟨hp, gs, d, tk, os⟩) (t1 := ?t1) (.one (by simp [endAt, Sem.wrap]) rfl (by simp only [Sem.wrap, step]; exact rfl)) ?_
  rw [den_call_hash]
  refine .trans (s1 := ⟨hp, gs, d, tk, os⟩) (t1 := ?t2) (.one (by simp [endAt]) ?_ (by simp only [step]; exact rfl)) ?_
  · have e : ("int.__hash__".startsWith "lifetime.") = false := by decide +kernel
    show (((!("int.__hash__".startsWith "lifetime.") || _) && !false && true) && true) = true
    rw [e]; rfl
  rw [den_hash]
  refine .trans (s1 := ⟨hp, gs, d, tk + 1, os⟩) (t1 := ?t3) (.one (by simp [endAt]) rfl (by simp only [step]; exact rfl)) ?_
  exact .one (by simp [endAt]) rfl (by simp only [step])
theorem Wp.ite_same {α : Type} {b : Prop} [Decidable b] {t t1 t2 : Sem α} {Q : α → Pos → Shared → Nat → Prop} (h1 : t1 = t) (h2 : t2 = t) (h : Wp p w n₀ ann c st t Q pos s m) : Wp p w n₀ ann c st (if b then t1 else t2) Q pos s m := by
  rw [h1, h2, ite_self]; exact h
theorem Wp.pyHash_int {i : Int} {t : Tok} {Q : Int → Pos → Shared → Nat → Prop} (h : ∀ n, n ≤ m + 5 → Q (hashInt i) pos { s with toks := s.toks + 1 } n) :
    Wp p w n₀ ann c (fr :: st) (pyHash (.int i t)) Q pos s m := by
  have hr := rawHash_range i
  unfold pyHash pyHashByItsType
  refine .bind ?_
  rw [cRoomFor, if_neg (by simp [Value.onHeap])]
  refine .pure ?_
  rw [hash_slot]
  refine .bind (.pure ?_)
  rw [if_neg (by decide)]
  refine .bind (.pure ?_)
  rw [if_neg (by decide)]
  unfold callSpecialIfBoundUnlessNone? bindSpecialIfBound?
  refine .bind (.holding (.bind ?_))
  rw [hash_slot]
  refine .bind (.pure ?_)
  dsimp only
  refine .bind (.askN (.pure ?_))
  refine .ite_same (t := Sem.pure (some (.builtin "int.__hash__", [.int i t]))) (by rw [hash_bindSpecial]; rfl) (by rw [hash_bindSpecial]; rfl) ?_
  refine .pure ?_
  dsimp only
  rw [if_neg (by decide)]
  unfold call runValue run
  refine .bind (.bind (.call_hash ?_))
  refine Wp.pure ?_
  refine Wp.pure ?_
  refine Wp.pure ?_
  dsimp only
  unfold pyHashByItsType.reduced
  rw [if_pos (by rw [decide_eq_true hr.1, decide_eq_true hr.2]; rfl)]
  exact .pure (h _ (by omega))
end
end Mine

namespace Mine
/-- the heap that stood, and behind it the objects made since -/
def hp (base : Heap) (l : List Obj) : Heap := ⟨base.objs ++ l.toArray, base.life⟩
abbrev dO (es : List DictEntry) (n : Nat) : Obj := { cls := .type "dict", data := .dict es.toArray n }

theorem hp_size (base : Heap) (l : List Obj) : (hp base l).objs.size = base.objs.size + l.length := by simp [hp]
theorem hp_push (base : Heap) (l : List Obj) (o : Obj) : (hp base l).push o = hp base (l ++ [o]) := by
  simp [hp, Heap.push]
theorem hp_get {base : Heap} {l : List Obj} {i : Nat} {es : List DictEntry} {n : Nat} (h : l[i]? = some (dO es n)) : (hp base l).get? (base.objs.size + i) = some (dO es n) := by
  unfold Heap.get? hp
  have e : (base.objs ++ l.toArray)[base.objs.size + i]? = some (dO es n) := by
    rw [Array.getElem?_append_right (by omega)]
    simpa using h
  simp only [e]
theorem hp_update {base : Heap} {l : List Obj} {i : Nat} (f : Obj → Obj) (h : i < l.length) : (hp base l).update (base.objs.size + i) f = hp base (l.modify i f) := by
  unfold Heap.update hp
  simp only [Heap.mk.injEq, and_true]
  apply Array.ext_getElem?
  intro j
  rw [Array.getElem?_modify]
  by_cases hj : j < base.objs.size
  · rw [Array.getElem?_append_left hj, Array.getElem?_append_left hj, if_neg (by omega)]
  · rw [Array.getElem?_append_right (by omega), Array.getElem?_append_right (by omega)]
    simp only [List.getElem?_toArray, List.getElem?_modify]
    by_cases e : base.objs.size + i = j
    · subst e; simp
    · have q : i ≠ j - base.objs.size := by omega
      rw [if_neg e]; simp [q]

section
variable {p : Program} {w : World} {n₀ : Nat} {ann : Option Value} {c : Code} {fr : Frame} {st : List Frame} {pos : Pos} {s : Shared} {m : Nat}

theorem Wp.dictEntries {a : Addr} {part : Option Value} {es : List DictEntry} {n : Nat} {Q : Array DictEntry → Pos → Shared → Nat → Prop} (ho : s.heap.get? a = some (dO es n)) (h : Q es.toArray pos s (m + 1)) :
    Wp p w n₀ ann c st (dictEntries a part) Q pos s m := by
  unfold PySem.dictEntries loadPart
  exact .bind (.loadN ho (Wp.pure (Wp.pure h)))
theorem Wp.dictEpoch {a : Addr} {part : Option Value} {es : List DictEntry} {n : Nat} {Q : Nat → Pos → Shared → Nat → Prop} (ho : s.heap.get? a = some (dO es n)) (h : Q n pos s (m + 1)) :
    Wp p w n₀ ann c st (dictEpoch a part) Q pos s m := by
  unfold PySem.dictEpoch loadPart
  exact .bind (.loadN ho (Wp.pure (Wp.pure h)))

theorem places_nil {es : List DictEntry} {h : Int} (hn : ∀ e ∈ es, e.hash ≠ h) : placesWithHash es.toArray.size (fun i => es.toArray[i]?.map (·.hash)) h = [] := by
  unfold placesWithHash
  rw [List.filter_eq_nil_iff]
  intro i hi
  have hlt : i < es.length := by simpa using hi
  have := hn es[i] (List.getElem_mem hlt)
  simp [hlt, this]

theorem Wp.dictFind_new {d : Addr} {es : List DictEntry} {n : Nat} {k : Int} {t : Tok} {h : Int} {Q : Option Nat → Pos → Shared → Nat → Prop} (ho : s.heap.get? d = some (dO es n)) (hn : ∀ e ∈ es, e.hash ≠ h) (hq : Q none pos s (m + 1)) :
    Wp p w n₀ ann c st (dictFind d (.int k t) h) Q pos s m := by
  unfold dictFind
  refine .holding (.bind (.dictEntries ho ?_))
  dsimp only
  rw [places_nil hn]
  rw [if_pos (by simp [carriedByValue])]
  unfold dictWalkPlain
  exact .bind (.pure (.pure hq))

theorem Wp.updateDictKeys {base : Heap} {l : List Obj} {i : Nat} {es : List DictEntry} {n : Nat} {e : DictEntry} {part : Option Value} {Q : Unit → Pos → Shared → Nat → Prop} (hs : s.heap = hp base l) (hl : l[i]? = some (dO es n)) (hb : n₀ ≤ base.objs.size) (hz : es.length ≤ 10000)
    (h : Q () pos { s with heap := hp base (l.set i (dO (es ++ [e]) (n + 1))) } (m + 1 + 1 + 1)) : Wp p w n₀ ann c st (updateDictKeys (base.objs.size + i) (·.push e) part) Q pos s m := by
  have hi : i < l.length := by
    rcases Nat.lt_or_ge i l.length with q | q
    · exact q
    · rw [List.getElem?_eq_none q] at hl; cases hl
  have ho : s.heap.get? (base.objs.size + i) = some (dO es n) := by rw [hs]; exact hp_get hl
  unfold PySem.updateDictKeys loadPart updatePart lookBehind
  refine .bind (.loadN ho (Wp.pure ?_))
  dsimp only
  have hup : s.heap.update (base.objs.size + i) (Obj.mapDictKeys (·.push e)) = hp base (l.set i (dO (es ++ [e]) (n + 1))) := by
    rw [hs, hp_update _ hi]
    congr 1
    apply List.ext_getElem?
    intro j
    rw [List.getElem?_modify, List.getElem?_set]
    by_cases q : i = j
    · subst q
      rw [hl]
      simp [hi, Obj.mapDictKeys]
    · simp [q]
  refine .bind (.updateN (by rw [ho]; rfl) (by omega) (Wp.pure ?_))
  rw [hup]
  have ho2 : (hp base (l.set i (dO (es ++ [e]) (n + 1)))).get? (base.objs.size + i) = some (dO (es ++ [e]) (n + 1)) := hp_get (by simp [hi])
  refine .bind (.loadN ho2 (Wp.pure ?_))
  have hpl : (dO (es ++ [e]) (n + 1)).data.pastItsLine = none := by
    show (if (es ++ [e]).toArray.size > sizeLine + 1 then some "dict:memory" else none) = none
    rw [if_neg]
    have : sizeLine = 2 ^ 24 := rfl
    simp; omega
  rw [hpl]
  exact Wp.pure h
end
end Mine

namespace Mine
abbrev kvE (k : Int) (x : Str) (t u : Tok) : DictEntry := ⟨hashInt k, .int k t, .str x u⟩
/-- the entries that a long run (its hashes drawn between) makes; a short run's -/
def entsL : Nat → List (Int × Str) → List DictEntry
  | _, [] => []
  | t, (k, x) :: r => kvE k x t (t + 1) :: entsL (t + 3) r
def entsS : Nat → List (Int × Str) → List DictEntry
  | _, [] => []
  | t, (k, x) :: r => kvE k x t (t + 1) :: entsS (t + 2) r
theorem entsL_len : ∀ (t : Nat) (r : List (Int × Str)), (entsL t r).length = r.length
  | _, [] => rfl
  | t, (k, x) :: r => by simp [entsL, entsL_len (t + 3) r]
theorem entsS_len : ∀ (t : Nat) (r : List (Int × Str)), (entsS t r).length = r.length
  | _, [] => rfl
  | t, (k, x) :: r => by simp [entsS, entsS_len (t + 2) r]

section
variable {p : Program} {w : World} {n₀ : Nat} {ann : Option Value} {c : Code} {fr : Frame} {st : List Frame} {pos : Pos} {s : Shared} {m : Nat}

theorem Wp.dictSet_new {base : Heap} {l : List Obj} {i : Nat} {es : List DictEntry} {n : Nat} {k : Int} {t : Tok} {v : Value} {Q : Unit → Pos → Shared → Nat → Prop} (hs : s.heap = hp base l) (hl : l[i]? = some (dO es n)) (hb : n₀ ≤ base.objs.size) (hz : es.length ≤ 10000)
    (hn : ∀ e ∈ es, e.hash ≠ hashInt k) (h : ∀ j, j ≤ m + 20 → Q () pos { s with heap := hp base (l.set i (dO (es ++ [⟨hashInt k, .int k t, v⟩]) (n + 1))), toks := s.toks + 1 } j) :
    Wp p w n₀ ann c (fr :: st) (dictSet (base.objs.size + i) (.int k t) v) Q pos s m := by
  unfold dictSet
  refine .holding (.bind (.pyHash_int fun j hj => ?_))
  unfold dictSetHashed
  refine .holding (.bind (.dictFind_new (s := { s with toks := s.toks + 1 }) (es := es) (n := n) (by rw [show ({ s with toks := s.toks + 1 } : Shared).heap = hp base l from hs]; exact hp_get hl) hn ?_))
  dsimp only
  unfold rule
  refine .bind (.ruleN (Wp.pure ?_))
  exact .updateDictKeys (s := { s with toks := s.toks + 1 }) hs hl hb hz (h _ (by omega))

theorem Wp.dictPut_new {base : Heap} {l : List Obj} {i : Nat} {es : List DictEntry} {n : Nat} {k : Int} {t : Tok} {v : Value} {Q : Unit → Pos → Shared → Nat → Prop} (hs : s.heap = hp base l) (hl : l[i]? = some (dO es n)) (hb : n₀ ≤ base.objs.size) (hz : es.length ≤ 10000)
    (hn : ∀ e ∈ es, e.hash ≠ hashInt k) (h : ∀ j, j ≤ m + 10 → Q () pos { s with heap := hp base (l.set i (dO (es ++ [⟨hashInt k, .int k t, v⟩]) (n + 1))) } j) :
    Wp p w n₀ ann c st (dictPut (base.objs.size + i) (hashInt k) (.int k t) v) Q pos s m := by
  unfold dictPut
  refine .bind (.dictFind_new (es := es) (n := n) (by rw [hs]; exact hp_get hl) hn ?_)
  dsimp only
  exact .updateDictKeys hs hl hb hz (h _ (by omega))

/-- a tree that hands back the text and moves one token on -/
def Const1 (t : Sem Value) (f : Tok → Value) : Prop := t = .fresh fun u => .pure (f u)
/-- a tree that does so and then stands elsewhere -/
def Const1A (t : Sem Value) (f : Tok → Value) : Prop := ∃ q, t = .fresh fun u => .at q fun _ => .pure (f u)

inductive Pairs2 : List (Sem Value × Sem Value) → List (Int × Str) → Prop
  | nil : Pairs2 [] []
  | cons {a b : Sem Value} {k : Int} {x : Str} {r : List (Sem Value × Sem Value)} {q : List (Int × Str)} : Const1 a (.int k) → Const1A b (.str x) → Pairs2 r q → Pairs2 ((a, b) :: r) ((k, x) :: q)
theorem Pairs2.length {r : List (Sem Value × Sem Value)} {q : List (Int × Str)} (h : Pairs2 r q) : r.length = q.length := by
  induction h with
  | nil => rfl
  | cons _ _ _ ih => simp [ih]
theorem Pairs2.append {r r' : List (Sem Value × Sem Value)} {q q' : List (Int × Str)} (h : Pairs2 r q) (h' : Pairs2 r' q') : Pairs2 (r ++ r') (q ++ q') := by
  induction h with
  | nil => exact h'
  | cons a b _ ih => exact .cons a b ih

theorem Wp.const1 {t : Sem Value} {f : Tok → Value} {Q : Value → Pos → Shared → Nat → Prop} (h : Const1 t f) (k : Q (f s.toks) pos { s with toks := s.toks + 1 } (m + 1)) : Wp p w n₀ ann c st t Q pos s m := by
  rw [h]; exact .freshN (.pure k)
theorem Wp.const1A {t : Sem Value} {f : Tok → Value} {Q : Value → Pos → Shared → Nat → Prop} (h : Const1A t f) (k : ∀ q, Q (f s.toks) q { s with toks := s.toks + 1 } (m + 1 + 1)) : Wp p w n₀ ann c st t Q pos s m := by
  obtain ⟨q, h⟩ := h
  rw [h]; exact .freshN (.atN (.pure (k q)))

/-- all the keys' hashes differ -/
def Apart (es : List DictEntry) : List (Int × Str) → Prop
  | [] => True
  | (k, _) :: r => (∀ e ∈ es, e.hash ≠ hashInt k) ∧ (∀ q ∈ r, hashInt q.1 ≠ hashInt k) ∧ Apart es r
theorem Apart.push {es : List DictEntry} {e : DictEntry} : ∀ {r : List (Int × Str)}, Apart es r → (∀ q ∈ r, hashInt q.1 ≠ e.hash) → Apart (es ++ [e]) r
  | [], _, _ => trivial
  | (k, x) :: r, ⟨h1, h2, h3⟩, h => ⟨fun e' he' => by
      rcases List.mem_append.mp he' with q | q
      · exact h1 e' q
      · rw [List.mem_singleton.mp q]; exact (h (k, x) (.head _)).symm, h2, h3.push fun q hq => h q (.tail _ hq)⟩
theorem Apart.next {es : List DictEntry} {k : Int} {x : Str} {t u : Tok} {r : List (Int × Str)} (h : Apart es ((k, x) :: r)) : Apart (es ++ [kvE k x t u]) r := h.2.2.push h.2.1

theorem set_last (l : List Obj) (o o' : Obj) : (l ++ [o]).set l.length o' = l ++ [o'] := by simp
theorem get_last (l : List Obj) (o : Obj) : (l ++ [o])[l.length]? = some o := by simp

/-- the long run's loop -/
theorem wpLongLoop {base : Heap} {l : List Obj} : ∀ {prs : List (Sem Value × Sem Value)} {kv : List (Int × Str)} (_ : Pairs2 prs kv) {es : List DictEntry} {n : Nat} {pos : Pos} {s : Shared} {m : Nat} {Q : PUnit → Pos → Shared → Nat → Prop}
    (_ : s.heap = hp base (l ++ [dO es n])) (_ : n₀ ≤ base.objs.size) (_ : es.length + kv.length ≤ 10000) (_ : Apart es kv)
    (_ : ∀ q j, j ≤ m + 30 * kv.length → Q ⟨⟩ q { s with heap := hp base (l ++ [dO (es ++ entsL s.toks kv) (n + kv.length)]), toks := s.toks + 3 * kv.length } j),
    Wp p w n₀ ann c (fr :: st) (forIn prs PUnit.unit fun x _ => do
        let kv ← x.1
        let vv ← holding [kv] x.2
        holding [kv, vv] (dictSet (base.objs.size + l.length) kv vv)
        pure (ForInStep.yield PUnit.unit)) Q pos s m
  | [], _, .nil, es, n, pos, s, m, Q, hs, hb, hz, ha, h => by
    rw [List.forIn_nil]
    refine .pure ?_
    have := h pos m (by omega)
    simp only [entsL, List.append_nil, List.length_nil, Nat.add_zero, Nat.mul_zero] at this
    rw [← hs] at this
    exact this
  | _, _, .cons (a := a) (b := b) (k := k) (x := x) (r := r) (q := q) h1 h2 h3, es, n, pos, s, m, Q, hs, hb, hz, ha, h => by
    rw [List.forIn_cons]
    refine .bind (.bind (.const1 h1 ?_))
    refine .bind (.holding (.const1A h2 fun pq => ?_))
    refine .bind (.holding ?_)
    refine .dictSet_new (s := { s with toks := s.toks + 2 }) (l := l ++ [dO es n]) (es := es) (n := n) (by exact hs) (get_last _ _) hb (by simp at hz; omega) ha.1 fun j0 hj0 => ?_
    rw [set_last]
    refine .pure ?_
    dsimp only
    refine wpLongLoop h3 (es := es ++ [kvE k x s.toks (s.toks + 1)]) (n := n + 1) (s := { s with heap := hp base (l ++ [dO (es ++ [kvE k x s.toks (s.toks + 1)]) (n + 1)]), toks := s.toks + 2 + 1 }) rfl hb (by simp at hz ⊢; omega) ha.next fun q' j hj => ?_
    have := h q' j (by simp only [List.length_cons]; omega)
    simp only [entsL, List.length_cons] at this
    simp only [List.append_assoc, List.singleton_append]
    rw [show n + 1 + q.length = n + (q.length + 1) by omega, show s.toks + 2 + 1 + 3 * q.length = s.toks + 3 * (q.length + 1) by omega]
    exact this
end
end Mine

namespace Mine
section
variable {p : Program} {w : World} {n₀ : Nat} {ann : Option Value} {c : Code} {fr : Frame} {st : List Frame} {pos : Pos} {s : Shared} {m : Nat}

theorem wpSubLong {base : Heap} {l : List Obj} {prs : List (Sem Value × Sem Value)} {kv : List (Int × Str)} {Q : Addr → Pos → Shared → Nat → Prop} (hP : Pairs2 prs kv) (hlen : ¬ kv.length ≤ 15) (hs : s.heap = hp base l) (hb : n₀ ≤ base.objs.size) (hz : kv.length ≤ 10000) (ha : Apart [] kv)
    (h : ∀ q j, j ≤ m + 30 * kv.length + 10 → Q (base.objs.size + l.length) q { s with heap := hp base (l ++ [dO (entsL s.toks kv) kv.length]), toks := s.toks + 3 * kv.length } j) :
    Wp p w n₀ ann c (fr :: st) (subDict prs) Q pos s m := by
  unfold subDict alloc
  refine .bind (.allocN ?_)
  refine Wp.pure ?_
  have hsz : s.heap.objs.size = base.objs.size + l.length := by rw [hs, hp_size]
  have hpu : s.heap.push { cls := .type "dict", data := .dict #[] } = hp base (l ++ [dO [] 0]) := by rw [hs, hp_push]
  rw [hsz, hpu]
  refine .bind (.holding ?_)
  rw [if_neg (by rw [hP.length]; exact hlen)]
  unfold rule
  refine .bind (.ruleN (Wp.pure ?_))
  refine .bind (wpLongLoop (s := { s with heap := hp base (l ++ [dO [] 0]) }) hP rfl hb (by simpa using hz) ha fun q j hj => ?_)
  refine Wp.pure ?_
  refine Wp.pure ?_
  have := h q j (by omega)
  simpa using this

theorem wpEvalPairs {base : Heap} : ∀ {prs : List (Sem Value × Sem Value)} {kv : List (Int × Str)} (_ : Pairs2 prs kv) {pos : Pos} {s : Shared} {m : Nat} {Q : List (Value × Value) → Pos → Shared → Nat → Prop}
    (_ : ∀ q j, j ≤ m + 3 * kv.length → Q ((entsS s.toks kv).map fun e => (e.key, e.val)) q { s with toks := s.toks + 2 * kv.length } j), Wp p w n₀ ann c st (evalPairs prs) Q pos s m
  | [], _, .nil, pos, s, m, Q, h => by
    unfold evalPairs
    exact Wp.pure (h pos m (by omega))
  | _, _, .cons (a := a) (b := b) (k := k) (x := x) (r := r) (q := q) h1 h2 h3, pos, s, m, Q, h => by
    unfold evalPairs
    refine .bind (.const1 h1 ?_)
    refine .bind (.holding (.const1A h2 fun pq => ?_))
    refine .bind (.holding (wpEvalPairs (base := base) h3 (s := { s with toks := s.toks + 2 }) fun q' j hj => ?_))
    refine Wp.pure ?_
    have := h q' j (by simp only [List.length_cons]; omega)
    simp only [entsS, List.map_cons, List.length_cons] at this
    rw [show s.toks + 2 + 2 * q.length = s.toks + 2 * (q.length + 1) by omega]
    exact this

/-- the short run's loop: over the pairs evaluated -/
theorem wpShortLoop {base : Heap} {l : List Obj} : ∀ {kv : List (Int × Str)} {t : Nat} {es : List DictEntry} {n : Nat} {pos : Pos} {s : Shared} {m : Nat} {Q : PUnit → Pos → Shared → Nat → Prop}
    (_ : s.heap = hp base (l ++ [dO es n])) (_ : n₀ ≤ base.objs.size) (_ : es.length + kv.length ≤ 10000) (_ : Apart es kv)
    (_ : ∀ j, j ≤ m + 20 * kv.length → Q ⟨⟩ pos { s with heap := hp base (l ++ [dO (es ++ entsS t kv) (n + kv.length)]), toks := s.toks + kv.length } j),
    Wp p w n₀ ann c (fr :: st) (forIn ((entsS t kv).map fun e => (e.key, e.val)) PUnit.unit fun x _ => do
        dictSet (base.objs.size + l.length) x.1 x.2
        pure (ForInStep.yield PUnit.unit)) Q pos s m
  | [], t, es, n, pos, s, m, Q, hs, hb, hz, ha, h => by
    simp only [entsS, List.map_nil, List.forIn_nil]
    refine Wp.pure ?_
    replace h := h m (by omega)
    simp only [entsS, List.append_nil, List.length_nil, Nat.add_zero] at h
    rw [← hs] at h
    exact h
  | (k, x) :: q, t, es, n, pos, s, m, Q, hs, hb, hz, ha, h => by
    simp only [entsS, List.map_cons, List.forIn_cons]
    refine .bind (.bind ?_)
    refine .dictSet_new (l := l ++ [dO es n]) (es := es) (n := n) hs (get_last _ _) hb (by simp at hz; omega) ha.1 fun j0 hj0 => ?_
    rw [set_last]
    refine Wp.pure ?_
    dsimp only
    refine wpShortLoop (kv := q) (t := t + 2) (es := es ++ [kvE k x t (t + 1)]) (n := n + 1) (s := { s with heap := hp base (l ++ [dO (es ++ [kvE k x t (t + 1)]) (n + 1)]), toks := s.toks + 1 }) rfl hb (by simp at hz ⊢; omega) ha.next fun j hj => ?_
    replace h := h j (by simp only [List.length_cons]; omega)
    simp only [entsS, List.length_cons] at h
    simp only [List.append_assoc, List.singleton_append]
    rw [show n + 1 + q.length = n + (q.length + 1) by omega, show s.toks + 1 + q.length = s.toks + (q.length + 1) by omega]
    exact h

theorem wpSubShort {base : Heap} {l : List Obj} {prs : List (Sem Value × Sem Value)} {kv : List (Int × Str)} {Q : Addr → Pos → Shared → Nat → Prop} (hP : Pairs2 prs kv) (hlen : kv.length ≤ 15) (hs : s.heap = hp base l) (hb : n₀ ≤ base.objs.size) (ha : Apart [] kv)
    (h : ∀ q j, j ≤ m + 30 * kv.length + 10 → Q (base.objs.size + l.length) q { s with heap := hp base (l ++ [dO (entsS s.toks kv) kv.length]), toks := s.toks + 3 * kv.length } j) :
    Wp p w n₀ ann c (fr :: st) (subDict prs) Q pos s m := by
  unfold subDict alloc
  refine .bind (.allocN ?_)
  refine Wp.pure ?_
  have hsz : s.heap.objs.size = base.objs.size + l.length := by rw [hs, hp_size]
  have hpu : s.heap.push { cls := .type "dict", data := .dict #[] } = hp base (l ++ [dO [] 0]) := by rw [hs, hp_push]
  rw [hsz, hpu]
  refine .bind (.holding ?_)
  rw [if_pos (by rw [hP.length]; exact hlen)]
  refine .bind (wpEvalPairs (base := base) (s := { s with heap := hp base (l ++ [dO [] 0]) }) hP fun q j0 hj0 => ?_)
  refine .holding ?_
  refine .bind (wpShortLoop (t := s.toks) (s := { s with heap := hp base (l ++ [dO [] 0]), toks := s.toks + 2 * kv.length }) rfl hb (by simp; omega) ha fun j hj => ?_)
  refine Wp.pure ?_
  refine Wp.pure ?_
  have := h q j (by omega)
  simp only [List.nil_append, Nat.zero_add]
  rw [show s.toks + 2 * kv.length + kv.length = s.toks + 3 * kv.length by omega]
  exact this
end
end Mine

namespace Mine
theorem dict_sub : isSubtype (.type "dict") (.type "dict") = (pure true : Sem Bool) := by kernel_rfl
theorem dict_iter : typeLookup (.type "dict") "__iter__" = (pure (some (.builtin "dict.__iter__")) : Sem (Option Value)) := by kernel_rfl
/-- an entry under an int, its hash that int's -/
def IntE (e : DictEntry) : Prop := ∃ k t, e.key = .int k t ∧ e.hash = hashInt k
theorem entsL_int : ∀ (t : Nat) (r : List (Int × Str)), ∀ e ∈ entsL t r, IntE e
  | _, [], _, h => nomatch h
  | t, (k, x) :: r, e, h => by
    rcases List.mem_cons.mp h with rfl | h
    · exact ⟨k, t, rfl, rfl⟩
    · exact entsL_int _ r e h
theorem entsS_int : ∀ (t : Nat) (r : List (Int × Str)), ∀ e ∈ entsS t r, IntE e
  | _, [], _, h => nomatch h
  | t, (k, x) :: r, e, h => by
    rcases List.mem_cons.mp h with rfl | h
    · exact ⟨k, t, rfl, rfl⟩
    · exact entsS_int _ r e h
/-- no hash twice, none of the first list's -/
def ApartE (es : List DictEntry) : List DictEntry → Prop
  | [] => True
  | e :: r => (∀ x ∈ es, x.hash ≠ e.hash) ∧ (∀ x ∈ r, x.hash ≠ e.hash) ∧ ApartE es r
theorem ApartE.push {es : List DictEntry} {e : DictEntry} : ∀ {r : List DictEntry}, ApartE es r → (∀ x ∈ r, x.hash ≠ e.hash) → ApartE (es ++ [e]) r
  | [], _, _ => trivial
  | y :: r, ⟨h1, h2, h3⟩, h => ⟨fun x hx => by
      rcases List.mem_append.mp hx with q | q
      · exact h1 x q
      · rw [List.mem_singleton.mp q]; exact (h y (.head _)).symm, h2, h3.push fun x hx => h x (.tail _ hx)⟩
section
variable {p : Program} {w : World} {n₀ : Nat} {ann : Option Value} {c : Code} {fr : Frame} {st : List Frame} {pos : Pos} {s : Shared} {m : Nat}

theorem mergeLoop {base : Heap} {subs : List Obj} {ents : List DictEntry} {m : Nat} : ∀ {rest done : List DictEntry} (_ : ents = done ++ rest) {es : List DictEntry} {n : Nat} {s : Shared} {m' : Nat} {Q : PUnit → Pos → Shared → Nat → Prop}
    (_ : s.heap = hp base (dO es n :: (subs ++ [dO ents m]))) (_ : n₀ ≤ base.objs.size) (_ : es.length + rest.length ≤ 10000) (_ : ApartE es rest) (_ : ∀ e ∈ rest, IntE e)
    (_ : ∀ j, j ≤ m' + 20 * rest.length → Q ⟨⟩ pos { s with heap := hp base (dO (es ++ rest) (n + rest.length) :: (subs ++ [dO ents m])) } j),
    Wp p w n₀ ann c st (forIn (List.range' done.length rest.length) PUnit.unit fun i _ => do
        let es ← dictEntries (base.objs.size + (1 + subs.length))
        match es[i]? with
        | some e => do
          holding [e.key, e.val] (dictPut (base.objs.size + 0) e.hash e.key e.val)
          let ep ← dictEpoch (base.objs.size + (1 + subs.length))
          if (ep != m) = true then do
            unsupported "dict.changed-during-merge"
            pure (ForInStep.yield PUnit.unit)
          else pure (ForInStep.yield PUnit.unit)
        | _ => do
          unsupported "dict.changed-during-merge"
          pure (ForInStep.yield PUnit.unit)) Q pos s m'
  | [], done, he, es, n, s, m', Q, hs, hb, hz, ha, hi, h => by
    simp only [List.length_nil, List.range'_zero, List.forIn_nil]
    refine Wp.pure ?_
    replace h := h m' (by omega)
    simp only [List.append_nil, List.length_nil, Nat.add_zero] at h
    rw [← hs] at h
    exact h
  | e :: rest, done, he, es, n, s, m', Q, hs, hb, hz, ha, hi, h => by
    simp only [List.length_cons, List.range'_succ, List.forIn_cons]
    have hl : ∀ o : Obj, (o :: (subs ++ [dO ents m]))[1 + subs.length]? = some (dO ents m) := fun o => by
      rw [Nat.add_comm]; simp
    have ho : s.heap.get? (base.objs.size + (1 + subs.length)) = some (dO ents m) := by rw [hs]; exact hp_get (hl _)
    refine .bind (.bind (.dictEntries ho ?_))
    have hx : ents.toArray[done.length]? = some e := by rw [he]; simp
    rw [hx]
    dsimp only
    obtain ⟨k, t, hk, hh⟩ := hi e (.head _)
    refine .bind (.holding ?_)
    rw [hk, hh]
    refine .dictPut_new (l := dO es n :: (subs ++ [dO ents m])) (i := 0) (es := es) (n := n) hs rfl hb (by simp at hz; omega) (by rw [← hh]; exact ha.1) fun j0 hj0 => ?_
    have heq : (⟨hashInt k, .int k t, e.val⟩ : DictEntry) = e := by rw [← hk, ← hh]
    rw [heq]
    simp only [List.set_cons_zero]
    refine .bind (.dictEpoch (es := ents) (n := m) (by show (hp base _).get? _ = _; exact hp_get (hl _)) ?_)
    rw [if_neg (by simp)]
    refine Wp.pure ?_
    dsimp only
    have := mergeLoop (rest := rest) (done := done ++ [e]) (by rw [he]; simp) (es := es ++ [e]) (n := n + 1) (s := { s with heap := hp base (dO (es ++ [e]) (n + 1) :: (subs ++ [dO ents m])) }) (Q := Q) rfl hb (by simp at hz ⊢; omega) (ha.2.2.push ha.2.1) (fun x hx => hi x (.tail _ hx)) (m' := j0 + 1) (by
      intro j hj
      replace h := h j (by simp only [List.length_cons]; omega)
      simp only [List.append_assoc, List.singleton_append]
      rw [show n + 1 + rest.length = n + (rest.length + 1) by omega]
      exact h)
    rw [List.length_append, List.length_singleton] at this
    exact this

theorem wpMerge {base : Heap} {subs : List Obj} {ents : List DictEntry} {es : List DictEntry} {n m : Nat} {m' : Nat} {Q : Unit → Pos → Shared → Nat → Prop} (hs : s.heap = hp base (dO es n :: (subs ++ [dO ents m]))) (hb : n₀ ≤ base.objs.size) (hsm : base.objs.size + (1 + subs.length) ≠ sysModules)
    (hz : es.length + ents.length ≤ 10000) (hne : es ≠ []) (ha : ApartE es ents) (hi : ∀ e ∈ ents, IntE e) (h : ∀ j, j ≤ m' + 20 * ents.length + 10 → Q () pos { s with heap := hp base (dO (es ++ ents) (n + ents.length) :: (subs ++ [dO ents m])) } j) :
    Wp p w n₀ ann c st (mergeMapping (base.objs.size + 0) (.ref (base.objs.size + (1 + subs.length))) false) Q pos s m' := by
  have hl : ∀ o : Obj, (o :: (subs ++ [dO ents m]))[1 + subs.length]? = some (dO ents m) := fun o => by
    rw [Nat.add_comm]; simp
  have ho : s.heap.get? (base.objs.size + (1 + subs.length)) = some (dO ents m) := by rw [hs]; exact hp_get (hl _)
  have hd : s.heap.get? (base.objs.size + 0) = some (dO es n) := by rw [hs]; exact hp_get rfl
  unfold mergeMapping
  refine .bind (.bind ?_)
  unfold typeOf loadPart
  refine .bind (.loadN ho ?_)
  refine Wp.pure ?_
  refine Wp.pure ?_
  show Wp p w n₀ ann c st (isSubtype (.type "dict") (.type "dict")) _ _ _ _
  rw [dict_sub]
  refine Wp.pure ?_
  rw [if_pos rfl]
  refine .bind ?_
  unfold specialOf typeOf loadPart
  refine .bind (.bind (.loadN ho ?_))
  refine Wp.pure ?_
  refine Wp.pure ?_
  show Wp p w n₀ ann c st (typeLookup (.type "dict") "__iter__") _ _ _ _
  rw [dict_iter]
  refine Wp.pure ?_
  refine .bind (Wp.pure ?_)
  rw [show (some (Value.builtin "dict.__iter__") == some (Value.builtin "dict.__iter__")) = true by decide +kernel]
  dsimp only
  rw [if_neg (by simpa using hsm)]
  refine .bind (.dictEntries hd ?_)
  rw [if_neg (by simpa using hne)]
  refine .bind (.dictEntries ho ?_)
  refine .bind (.dictEpoch ho ?_)
  rw [List.range_eq_range', List.size_toArray]
  refine .bind (mergeLoop (rest := ents) (done := []) rfl hs hb hz ha hi fun j hj => ?_)
  exact Wp.pure (h _ (by omega))
end
end Mine

namespace Mine
abbrev PR := Sem Value × Sem Value
abbrev asItem (x : PR) : Option (Sem Value) × Sem Value := (some x.1, x.2)
def outL : List (List (Int × Str)) → Nat → List DictEntry
  | [], _ => []
  | q :: r, t => entsL t q ++ outL r (t + 3 * q.length)
def subsL : List (List (Int × Str)) → Nat → List Obj
  | [], _ => []
  | q :: r, t => dO (entsL t q) q.length :: subsL r (t + 3 * q.length)
def total : List (List (Int × Str)) → Nat
  | [] => 0
  | q :: r => q.length + total r

theorem Apart.toE {es : List DictEntry} : ∀ {r : List (Int × Str)} {l : List DictEntry}, l.map (·.hash) = r.map (fun q => hashInt q.1) → Apart es r → ApartE es l
  | [], [], _, _ => trivial
  | (k, x) :: r, e :: l, hm, ⟨h1, h2, h3⟩ => by
    simp only [List.map_cons, List.cons.injEq] at hm
    refine ⟨fun y hy => by rw [hm.1]; exact h1 y hy, fun y hy => ?_, h3.toE hm.2⟩
    rw [hm.1]
    have : y.hash ∈ l.map (·.hash) := List.mem_map_of_mem hy
    rw [hm.2] at this
    obtain ⟨q, hq, e'⟩ := List.mem_map.mp this
    rw [← e']; exact h2 q hq
  | [], _ :: _, hm, _ => by simp at hm
  | _ :: _, [], hm, _ => by simp at hm
theorem entsL_hash : ∀ (t : Nat) (r : List (Int × Str)), (entsL t r).map (·.hash) = r.map fun q => hashInt q.1
  | _, [] => rfl
  | t, (k, x) :: r => by simp [entsL, entsL_hash (t + 3) r]
theorem entsS_hash : ∀ (t : Nat) (r : List (Int × Str)), (entsS t r).map (·.hash) = r.map fun q => hashInt q.1
  | _, [] => rfl
  | t, (k, x) :: r => by simp [entsS, entsS_hash (t + 2) r]

section
variable {p : Program} {w : World} {n₀ : Nat} {ann : Option Value} {c : Code} {fr : Frame} {st : List Frame} {pos : Pos} {s : Shared} {m : Nat}

theorem accLoop {F : List PR → Option Addr → Sem (Option Addr)} {B : Option (Sem Value) × Sem Value → Option Addr × List PR → Sem (ForInStep (Option Addr × List PR))}
    (hB : ∀ k v main run, B (some k, v) (main, run) = if ((run ++ [(k, v)]).length == 17) = true then (F (run ++ [(k, v)]) main >>= fun m => pure (ForInStep.yield (m, []))) else pure (ForInStep.yield (main, run ++ [(k, v)])))
    {rest : List (Option (Sem Value) × Sem Value)} {main : Option Addr} {Q : Option Addr × List PR → Pos → Shared → Nat → Prop} : ∀ (prs : List PR) (run : List PR) (_ : run.length + prs.length = 17) (_ : prs ≠ [])
    (_ : Wp p w n₀ ann c st (F (run ++ prs) main) (fun m pos' s' n => Wp p w n₀ ann c st (forIn rest (m, []) B) Q pos' s' n) pos s m),
    Wp p w n₀ ann c st (forIn (prs.map asItem ++ rest) (main, run) B) Q pos s m
  | [], _, _, hne, _ => absurd rfl hne
  | [x], run, hl, _, h => by
    simp only [List.map_cons, List.map_nil, List.cons_append, List.nil_append, List.forIn_cons]
    refine .bind ?_
    rw [hB, if_pos (by simpa using hl)]
    refine .bind ?_
    exact h.mono fun m p' s' n z => Wp.pure z
  | x :: y :: r, run, hl, _, h => by
    simp only [List.map_cons, List.cons_append, List.forIn_cons]
    refine .bind ?_
    rw [hB, if_neg (by simp at hl ⊢; omega)]
    refine Wp.pure ?_
    dsimp only
    have := accLoop hB (rest := rest) (main := main) (Q := Q) (y :: r) (run ++ [x]) (by simp at hl ⊢; omega) (by simp) (by simpa using h)
    simpa using this
theorem lastLoop {F : List PR → Option Addr → Sem (Option Addr)} {B : Option (Sem Value) × Sem Value → Option Addr × List PR → Sem (ForInStep (Option Addr × List PR))}
    (hB : ∀ k v main run, B (some k, v) (main, run) = if ((run ++ [(k, v)]).length == 17) = true then (F (run ++ [(k, v)]) main >>= fun m => pure (ForInStep.yield (m, []))) else pure (ForInStep.yield (main, run ++ [(k, v)])))
    {main : Option Addr} {Q : Option Addr × List PR → Pos → Shared → Nat → Prop} : ∀ (prs : List PR) (run : List PR) (_ : run.length + prs.length < 17)
    (_ : Q (main, run ++ prs) pos s m), Wp p w n₀ ann c st (forIn (prs.map asItem) (main, run) B) Q pos s m
  | [], run, _, h => by
    simp only [List.map_nil, List.forIn_nil]
    exact Wp.pure (by simpa using h)
  | x :: r, run, hl, h => by
    simp only [List.map_cons, List.forIn_cons]
    refine .bind ?_
    rw [hB, if_neg (by simp at hl ⊢; omega)]
    refine Wp.pure ?_
    dsimp only
    exact lastLoop hB r (run ++ [x]) (by simp at hl ⊢; omega) (by simpa using h)

/-- what a flush does: F's tree -/
structure IsFlush (F : List PR → Option Addr → Sem (Option Addr)) : Prop where
  first : ∀ run, run ≠ [] → F run none = (do let d ← subDict run; pure (some d))
  next : ∀ run d, run ≠ [] → ∃ g : Addr → Value → Sem Unit, F run (some d) = (do let sub ← holding [Value.ref d] (subDict run); (holding [Value.ref d, Value.ref sub] (mergeMapping d (Value.ref sub) false)).onRaise (g sub); pure (some d))

theorem flushFirst {F : List PR → Option Addr → Sem (Option Addr)} (hF : IsFlush F) {base : Heap} {prs : List PR} {kv : List (Int × Str)} {Q : Option Addr → Pos → Shared → Nat → Prop} (hP : Pairs2 prs kv) (hlen : kv.length = 17) (hs : s.heap = hp base []) (hb : n₀ ≤ base.objs.size) (ha : Apart [] kv)
    (h : ∀ q j, j ≤ m + 1000 → Q (some (base.objs.size + 0)) q { s with heap := hp base [dO (entsL s.toks kv) 17], toks := s.toks + 51 } j) : Wp p w n₀ ann c (fr :: st) (F prs none) Q pos s m := by
  rw [hF.first prs (by intro e; rw [e] at hP; cases hP; simp at hlen)]
  refine .bind (wpSubLong (l := []) hP (by omega) hs hb (by omega) ha fun q j hj => ?_)
  refine Wp.pure ?_
  have := h q j (by omega)
  rw [hlen]
  exact this
theorem flushNext {F : List PR → Option Addr → Sem (Option Addr)} (hF : IsFlush F) {base : Heap} {es : List DictEntry} {n : Nat} {subs : List Obj} {prs : List PR} {kv : List (Int × Str)} {Q : Option Addr → Pos → Shared → Nat → Prop} (hP : Pairs2 prs kv) (hlen : kv.length = 17) (hs : s.heap = hp base (dO es n :: subs)) (hb : n₀ ≤ base.objs.size)
    (hsm : base.objs.size + (1 + subs.length) ≠ sysModules) (hz : es.length + 17 ≤ 10000) (hne : es ≠ []) (ha : Apart es kv) (ha0 : Apart [] kv)
    (h : ∀ q j, j ≤ m + 1000 → Q (some (base.objs.size + 0)) q { s with heap := hp base (dO (es ++ entsL s.toks kv) (n + 17) :: (subs ++ [dO (entsL s.toks kv) 17])), toks := s.toks + 51 } j) : Wp p w n₀ ann c (fr :: st) (F prs (some (base.objs.size + 0))) Q pos s m := by
  obtain ⟨g, hg⟩ := hF.next prs (base.objs.size + 0) (by intro e; rw [e] at hP; cases hP; simp at hlen)
  rw [hg]
  refine .bind (.holding (wpSubLong (l := dO es n :: subs) hP (by omega) hs hb (by omega) ha0 fun q j0 hj0 => ?_))
  rw [show (dO es n :: subs).length = 1 + subs.length by simp; omega]
  refine .bind (.onRaise (.holding ?_))
  refine wpMerge (s := { s with heap := hp base (dO es n :: subs ++ [dO (entsL s.toks kv) kv.length]), toks := s.toks + 3 * kv.length }) rfl hb hsm (by rw [entsL_len]; omega) hne (ha.toE (entsL_hash _ _)) (entsL_int _ _) fun j hj => ?_
  refine Wp.pure ?_
  rw [entsL_len] at hj
  have := h q j (by omega)
  rw [entsL_len, hlen]
  exact this
theorem flushLast {F : List PR → Option Addr → Sem (Option Addr)} (hF : IsFlush F) {base : Heap} {es : List DictEntry} {n : Nat} {subs : List Obj} {prs : List PR} {kv : List (Int × Str)} {Q : Option Addr → Pos → Shared → Nat → Prop} (hP : Pairs2 prs kv) (hlen : kv.length ≤ 15) (h0 : kv ≠ []) (hs : s.heap = hp base (dO es n :: subs)) (hb : n₀ ≤ base.objs.size)
    (hsm : base.objs.size + (1 + subs.length) ≠ sysModules) (hz : es.length + kv.length ≤ 10000) (hne : es ≠ []) (ha : Apart es kv) (ha0 : Apart [] kv)
    (h : ∀ q j, j ≤ m + 1000 → Q (some (base.objs.size + 0)) q { s with heap := hp base (dO (es ++ entsS s.toks kv) (n + kv.length) :: (subs ++ [dO (entsS s.toks kv) kv.length])), toks := s.toks + 3 * kv.length } j) : Wp p w n₀ ann c (fr :: st) (F prs (some (base.objs.size + 0))) Q pos s m := by
  obtain ⟨g, hg⟩ := hF.next prs (base.objs.size + 0) (by intro e; rw [e] at hP; cases hP; exact h0 rfl)
  rw [hg]
  refine .bind (.holding (wpSubShort (l := dO es n :: subs) hP hlen hs hb ha0 fun q j0 hj0 => ?_))
  rw [show (dO es n :: subs).length = 1 + subs.length by simp; omega]
  refine .bind (.onRaise (.holding ?_))
  refine wpMerge (s := { s with heap := hp base (dO es n :: subs ++ [dO (entsS s.toks kv) kv.length]), toks := s.toks + 3 * kv.length }) rfl hb hsm (by rw [entsS_len]; omega) hne (ha.toE (entsS_hash _ _)) (entsS_int _ _) fun j hj => ?_
  refine Wp.pure ?_
  rw [entsS_len] at hj
  have := h q j (by omega)
  rw [entsS_len]
  exact this
end
end Mine

namespace Mine
theorem Apart.left {es : List DictEntry} : ∀ {a b : List (Int × Str)}, Apart es (a ++ b) → Apart es a
  | [], _, _ => trivial
  | (k, x) :: a, b, ⟨h1, h2, h3⟩ => ⟨h1, fun q hq => h2 q (List.mem_append_left _ hq), Apart.left h3⟩
theorem Apart.right {es : List DictEntry} : ∀ {a b : List (Int × Str)} (t : Nat), Apart es (a ++ b) → Apart (es ++ entsL t a) b
  | [], b, t, h => by simpa [entsL] using h
  | (k, x) :: a, b, t, h => by
    have h' : Apart (es ++ [kvE k x t (t + 1)]) (a ++ b) := Apart.next (x := x) h
    have := Apart.right (t + 3) h'
    simpa [entsL] using this
theorem Apart.bare {es : List DictEntry} : ∀ {r : List (Int × Str)}, Apart es r → Apart [] r
  | [], _ => trivial
  | (k, x) :: r, ⟨_, h2, h3⟩ => ⟨fun e he => (nomatch he), h2, h3.bare⟩
theorem Apart.drop : ∀ {es : List DictEntry} {a b : List (Int × Str)}, Apart es (a ++ b) → Apart es b
  | _, [], _, h => h
  | es, (k, x) :: a, b, ⟨_, _, h3⟩ => Apart.drop (es := es) (a := a) h3

section
variable {p : Program} {w : World} {n₀ : Nat} {ann : Option Value} {c : Code} {fr : Frame} {st : List Frame} {pos : Pos} {s : Shared} {m : Nat}

theorem midLoop {F : List PR → Option Addr → Sem (Option Addr)} (hF : IsFlush F) {B : Option (Sem Value) × Sem Value → Option Addr × List PR → Sem (ForInStep (Option Addr × List PR))}
    (hB : ∀ k v main run, B (some k, v) (main, run) = if ((run ++ [(k, v)]).length == 17) = true then (F (run ++ [(k, v)]) main >>= fun m => pure (ForInStep.yield (m, []))) else pure (ForInStep.yield (main, run ++ [(k, v)])))
    {base : Heap} (hb : n₀ ≤ base.objs.size) (hsm : sysModules < base.objs.size) {lastP : List PR} {kl : List (Int × Str)} (hl : Pairs2 lastP kl) (hll : kl.length < 17) {Q : Option Addr × List PR → Pos → Shared → Nat → Prop} :
    ∀ (L : List (List PR × List (Int × Str))) (_ : ∀ x ∈ L, Pairs2 x.1 x.2 ∧ x.2.length = 17) {es : List DictEntry} {n : Nat} {subs : List Obj} {pos : Pos} {s : Shared} {m : Nat} (_ : s.heap = hp base (dO es n :: subs))
      (_ : es.length + 17 * L.length ≤ 9000) (_ : es ≠ []) (_ : Apart es ((L.map (·.2)).flatten ++ kl))
      (_ : ∀ q j, j ≤ m + 1000 * L.length → Apart (es ++ outL (L.map (·.2)) s.toks) kl → (outL (L.map (·.2)) s.toks).length = 17 * L.length → Q (some (base.objs.size + 0), lastP) q { s with heap := hp base (dO (es ++ outL (L.map (·.2)) s.toks) (n + 17 * L.length) :: (subs ++ subsL (L.map (·.2)) s.toks)), toks := s.toks + 51 * L.length } j),
      Wp p w n₀ ann c (fr :: st) (forIn ((L.map (·.1)).flatten.map asItem ++ lastP.map asItem) (some (base.objs.size + 0), []) B) Q pos s m
  | [], _, es, n, subs, pos, s, m, hs, hz, hne, ha, h => by
    simp only [List.map_nil, List.flatten_nil, List.nil_append]
    refine lastLoop hB lastP [] (by rw [hl.length]; simpa using hll) ?_
    have := h pos m (by omega) (by simpa [outL] using ha) (by simp [outL])
    simp only [List.map_nil, outL, subsL, List.append_nil, List.length_nil, Nat.mul_zero, Nat.add_zero] at this
    rw [Nat.add_zero] at *
    rw [← hs] at this
    exact this
  | (P, kv) :: L, hL, es, n, subs, pos, s, m, hs, hz, hne, ha, h => by
    obtain ⟨hP, hlen⟩ := hL (P, kv) (.head _)
    simp only at hP hlen
    simp only [List.map_cons, List.flatten_cons, List.map_append, List.append_assoc]
    have ha1 : Apart es (kv ++ ((L.map (·.2)).flatten ++ kl)) := by simpa using ha
    refine accLoop hB P [] (by simpa [hP.length] using hlen) (by intro e; have := hP.length; rw [e] at this; simp at this hlen; omega) ?_
    rw [List.nil_append]
    refine flushNext hF hP hlen hs hb (Nat.ne_of_gt (Nat.lt_of_lt_of_le hsm (Nat.le_add_right _ _))) (by simp at hz; omega) hne ha1.left (ha1.left).bare fun q j0 hj0 => ?_
    refine midLoop hF hB hb hsm hl hll L (fun x hx => hL x (.tail _ hx)) (es := es ++ entsL s.toks kv) (n := n + 17) (subs := subs ++ [dO (entsL s.toks kv) 17]) (s := { s with heap := hp base (dO (es ++ entsL s.toks kv) (n + 17) :: (subs ++ [dO (entsL s.toks kv) 17])), toks := s.toks + 51 }) rfl
      (by simp [entsL_len] at hz ⊢; omega) (by simp [hne]) (ha1.right _) fun q' j hj hA hO => ?_
    have := h q' j (by simp only [List.length_cons]; omega) (by simpa [outL, hlen] using hA) (by simp [outL, entsL_len, hlen] at hO ⊢; omega)
    simp only [List.map_cons, outL, subsL, List.length_cons, hlen] at this
    simp only [List.append_assoc, List.singleton_append]
    rw [show n + 17 + 17 * L.length = n + 17 * (L.length + 1) by omega, show s.toks + 51 + 51 * L.length = s.toks + 51 * (L.length + 1) by omega]
    exact this

theorem wpDisplay {base : Heap} (hb : n₀ ≤ base.objs.size) (hsm : sysModules < base.objs.size) {P0 lastP : List PR} {k0 kl : List (Int × Str)} {L : List (List PR × List (Int × Str))} (h0 : Pairs2 P0 k0) (h0l : k0.length = 17)
    (hL : ∀ x ∈ L, Pairs2 x.1 x.2 ∧ x.2.length = 17) (hl : Pairs2 lastP kl) (hll : kl.length ≤ 15) (hl0 : kl ≠ []) (hz : 17 * L.length ≤ 8000) (hs : s.heap = hp base []) (ha : Apart [] (k0 ++ ((L.map (·.2)).flatten ++ kl)))
    {Q : Value → Pos → Shared → Nat → Prop}
    (h : ∀ q j, j ≤ m + 1000 * L.length + 2000 → Q (.ref (base.objs.size + 0)) q { s with
      heap := hp base (dO (entsL s.toks k0 ++ (outL (L.map (·.2)) (s.toks + 51) ++ entsS (s.toks + 51 + 51 * L.length) kl)) (17 + 17 * L.length + kl.length) :: (subsL (L.map (·.2)) (s.toks + 51) ++ [dO (entsS (s.toks + 51 + 51 * L.length) kl) kl.length])),
      toks := s.toks + 51 + 51 * L.length + 3 * kl.length } j) :
    Wp p w n₀ ann c (fr :: st) (dictDisplay (P0.map asItem ++ ((L.map (·.1)).flatten.map asItem ++ lastP.map asItem))) Q pos s m := by
  unfold dictDisplay
  extract_lets flush main run
  have hF : IsFlush flush := by
    refine ⟨fun run hr => ?_, fun run d hr => ⟨fun _ x => do let _ ← holding [Value.ref d, x] (runValue (Code.builtin "proto.let_go" {})); pure (), ?_⟩⟩
    · show (if run.isEmpty = true then _ else _) = _
      rw [if_neg (by simpa using hr)]
    · show (if run.isEmpty = true then _ else _) = _
      rw [if_neg (by simpa using hr)]
  have hne : entsL s.toks k0 ≠ [] := by
    intro e
    have := entsL_len s.toks k0
    rw [e, h0l] at this
    simp at this
  refine .bind ?_
  refine accLoop (F := flush) (fun k v main run => rfl) P0 [] (by simpa [h0.length] using h0l) (by intro e; have := h0.length; rw [e, h0l] at this; simp at this) ?_
  rw [List.nil_append]
  refine flushFirst hF h0 h0l hs hb ha.left fun q j0 hj0 => ?_
  refine midLoop hF (fun k v main run => rfl) hb hsm hl (by omega) L hL (es := entsL s.toks k0) (n := 17) (subs := []) (s := { s with heap := hp base [dO (entsL s.toks k0) 17], toks := s.toks + 51 }) rfl (by rw [entsL_len]; omega) hne
    (by have := ha.right s.toks; simpa using this) fun q1 j1 hj1 hA hO => ?_
  refine .bind ?_
  have ha2 : Apart (entsL s.toks k0 ++ outL (L.map (·.2)) (s.toks + 51)) kl := hA
  refine flushLast hF hl hll hl0 (s := { s with heap := hp base (dO (entsL s.toks k0 ++ outL (L.map (·.2)) (s.toks + 51)) (17 + 17 * L.length) :: ([] ++ subsL (L.map (·.2)) (s.toks + 51))), toks := s.toks + 51 + 51 * L.length }) rfl hb (Nat.ne_of_gt (Nat.lt_of_lt_of_le hsm (Nat.le_add_right _ _))) (by rw [List.length_append, entsL_len, hO]; omega) (by simp [hne]) ha2 ha2.bare fun q2 j2 hj2 => ?_
  refine Wp.pure ?_
  have := h q2 j2 (by omega)
  simpa using this
end
end Mine

namespace Mine
/-- the pairs of a display of written ints and texts -/
def intOf : Option Expr → Option Int
  | some (.Constant (.int i) _ _) => some i
  | _ => none
def strOf : Expr → Option Str
  | .Constant (.str x) _ _ => some x
  | _ => none
def kvOf : List (Option Expr) → List Expr → Option (List (Int × Str))
  | [], [] => some []
  | k :: ks, v :: vs => match intOf k, strOf v, kvOf ks vs with
    | some i, some x, some r => some ((i, x) :: r)
    | _, _, _ => none
  | _, _ => none
theorem intOf_some {k : Option Expr} {i : Int} (h : intOf k = some i) : ∃ a b, k = some (.Constant (.int i) a b) := by
  unfold intOf at h
  split at h
  · cases h; exact ⟨_, _, rfl⟩
  · cases h
theorem strOf_some {v : Expr} {x : Str} (h : strOf v = some x) : ∃ a b, v = .Constant (.str x) a b := by
  unfold strOf at h
  split at h
  · cases h; exact ⟨_, _, rfl⟩
  · cases h
def prsOf : List (Option Expr) → List Expr → Env → Pos → List PR
  | some e :: ks, v :: vs, env, dp => (eval e env, (do let x ← eval v env; standAt dp; pure x)) :: prsOf ks vs env dp
  | _, _, _, _ => []
theorem prs_of : ∀ {ks : List (Option Expr)} {vs : List Expr} {kv : List (Int × Str)} (env : Env) (dp : Pos), kvOf ks vs = some kv →
    (evalEachOpt ks env).zip ((evalEach vs env).map fun v => do let x ← v; standAt dp; pure x) = (prsOf ks vs env dp).map asItem ∧ Pairs2 (prsOf ks vs env dp) kv
  | [], [], kv, env, dp, h => by
    simp only [kvOf, Option.some.injEq] at h
    subst h
    exact ⟨rfl, .nil⟩
  | k :: ks, v :: vs, kv, env, dp, h => by
    unfold kvOf at h
    split at h
    · rename_i i x r h1 h2 h3
      cases h
      obtain ⟨a, b, rfl⟩ := intOf_some h1
      obtain ⟨a', b', rfl⟩ := strOf_some h2
      obtain ⟨e1, e2⟩ := prs_of (ks := ks) (vs := vs) env dp h3
      refine ⟨?_, .cons rfl ⟨dp, rfl⟩ e2⟩
      simp only [evalEachOpt, evalEach, List.map_cons, List.zip_cons_cons, prsOf]
      rw [e1]
      rfl
    · cases h
  | [], _ :: _, _, _, _, h => by simp [kvOf] at h
  | _ :: _, [], _, _, _, h => by simp [kvOf] at h

/-- the first chunks of 17 and what is left -/
def cut {α : Type} : Nat → List α → List (List α) × List α
  | 0, l => ([], l)
  | n + 1, l => (l.take 17 :: (cut n (l.drop 17)).1, (cut n (l.drop 17)).2)
theorem cut_flat {α : Type} : ∀ (n : Nat) (l : List α), (cut n l).1.flatten ++ (cut n l).2 = l
  | 0, l => rfl
  | n + 1, l => by
    simp only [cut, List.flatten_cons, List.append_assoc]
    rw [cut_flat n, List.take_append_drop]
theorem cut_len {α : Type} : ∀ (n : Nat) (l : List α), (cut n l).1.length = n
  | 0, l => rfl
  | n + 1, l => by simp [cut, cut_len n]
theorem Pairs2.take {r : List PR} {q : List (Int × Str)} (h : Pairs2 r q) : ∀ n, Pairs2 (r.take n) (q.take n) := by
  induction h with
  | nil => intro n; simpa using Pairs2.nil
  | cons a b _ ih =>
    intro n
    cases n with
    | zero => exact .nil
    | succ n => exact .cons a b (ih n)
theorem Pairs2.drop {r : List PR} {q : List (Int × Str)} (h : Pairs2 r q) : ∀ n, Pairs2 (r.drop n) (q.drop n) := by
  induction h with
  | nil => intro n; simpa using Pairs2.nil
  | cons a b h ih =>
    intro n
    cases n with
    | zero => exact .cons a b h
    | succ n => exact ih n
theorem Pairs2.cut : ∀ (n : Nat) {r : List PR} {q : List (Int × Str)}, Pairs2 r q → 17 * n ≤ q.length → (∀ x ∈ ((Mine.cut n r).1.zip (Mine.cut n q).1), Pairs2 x.1 x.2 ∧ x.2.length = 17) ∧ Pairs2 (Mine.cut n r).2 (Mine.cut n q).2 ∧ (Mine.cut n q).2.length = q.length - 17 * n
  | 0, r, q, h, _ => ⟨fun x hx => by simp [Mine.cut] at hx, h, by simp [Mine.cut]⟩
  | n + 1, r, q, h, hl => by
    obtain ⟨h1, h2, h3⟩ := Pairs2.cut n (h.drop 17) (by rw [List.length_drop]; omega)
    refine ⟨fun x hx => ?_, h2, ?_⟩
    · simp only [Mine.cut, List.zip_cons_cons, List.mem_cons] at hx
      rcases hx with rfl | hx
      · exact ⟨h.take 17, by rw [List.length_take]; omega⟩
      · exact h1 x hx
    · simp only [Mine.cut]
      rw [h3, List.length_drop]; omega
theorem zip_fst {α β : Type} : ∀ {a : List α} {b : List β}, a.length = b.length → (a.zip b).map (·.1) = a
  | [], [], _ => rfl
  | x :: a, y :: b, h => by simp at h; simp [zip_fst h]
theorem zip_snd {α β : Type} : ∀ {a : List α} {b : List β}, a.length = b.length → (a.zip b).map (·.2) = b
  | [], [], _ => rfl
  | x :: a, y :: b, h => by simp at h; simp [zip_snd h]

/-- ascending keys of small size -/
def asc : Int → List (Int × Str) → Bool
  | _, [] => true
  | lo, (k, _) :: r => decide (lo < k) && decide (k < 1152921504606846976) && asc k r
theorem hash_small {k : Int} (h0 : 0 ≤ k) (h1 : k < 1152921504606846976) : hashInt k = k := by
  have e : rawHash k = k := by
    unfold rawHash
    have h2 : (k.natAbs : Int) % ((2 ^ 61 - 1 : Nat) : Int) = k := by
      have : (k.natAbs : Int) = k := by omega
      rw [this]
      exact Int.emod_eq_of_lt h0 (by have : ((2 ^ 61 - 1 : Nat) : Int) = 2305843009213693951 := rfl; omega)
    have hn : ¬ k < 0 := by omega
    simp only [h2, if_neg hn]
    rw [if_neg (by simp; omega)]
  unfold hashInt
  rw [e, if_neg (by simp; omega)]
theorem asc_all : ∀ {lo : Int} {r : List (Int × Str)}, asc lo r = true → ∀ q ∈ r, lo < q.1 ∧ q.1 < 1152921504606846976
  | _, [], _, _, hq => nomatch hq
  | lo, (k, x) :: r, h, q, hq => by
    simp only [asc, Bool.and_eq_true, decide_eq_true_eq] at h
    rcases List.mem_cons.mp hq with rfl | hq
    · exact h.1
    · have := asc_all h.2 q hq
      exact ⟨by omega, this.2⟩
theorem apart_asc : ∀ {lo : Int} {r : List (Int × Str)}, -1 ≤ lo → asc lo r = true → Apart [] r
  | _, [], _, _ => trivial
  | lo, (k, x) :: r, h0, h => by
    have hk := asc_all h (k, x) (.head _)
    have h' : asc k r = true := by simp only [asc, Bool.and_eq_true] at h; exact h.2
    refine ⟨fun e he => (nomatch he), fun q hq => ?_, apart_asc (by omega) h'⟩
    have := asc_all h' q hq
    rw [hash_small (by omega) this.2, hash_small (k := k) (by omega) hk.2]
    omega
end Mine

namespace Mine
def dictEs (t N : Nat) (kv : List (Int × Str)) : List DictEntry :=
  entsL t (kv.take 17) ++ (outL (cut N (kv.drop 17)).1 (t + 51) ++ entsS (t + 51 + 51 * N) (cut N (kv.drop 17)).2)
def dictObjs (t N : Nat) (kv : List (Int × Str)) : List Obj :=
  dO (dictEs t N kv) (17 + 17 * N + (cut N (kv.drop 17)).2.length) :: (subsL (cut N (kv.drop 17)).1 (t + 51) ++ [dO (entsS (t + 51 + 51 * N) (cut N (kv.drop 17)).2) (cut N (kv.drop 17)).2.length])
def dictAfter (N : Nat) (kv : List (Int × Str)) (s : Shared) : Shared :=
  { s with heap := hp s.heap (dictObjs s.toks N kv), toks := s.toks + 51 + 51 * N + 3 * (cut N (kv.drop 17)).2.length }
theorem hp_nil (h : Heap) : h = hp h [] := by
  obtain ⟨o, l⟩ := h
  simp [hp]
section
variable {p : Program} {w : World} {n₀ : Nat} {ann : Option Value} {c : Code} {fr : Frame} {st : List Frame} {pos : Pos} {s : Shared} {m : Nat}

theorem Wp.standAt {q : Pos} {Q : Unit → Pos → Shared → Nat → Prop} (h : Q () q s (m + 1)) : Wp p w n₀ ann c st (standAt q) Q pos s m := by
  unfold PySem.standAt
  exact .atN (Wp.pure h)
theorem wpDict {ks : List (Option Expr)} {vs : List Expr} {kv : List (Int × Str)} {env : Env} {dp : Pos} {N r : Nat} (hkv : kvOf ks vs = some kv) (hlen : kv.length = 17 * (N + 1) + r) (hr0 : 1 ≤ r) (hr : r ≤ 15) (hN : N ≤ 400)
    (hasc : asc (-1) kv = true) (hb : n₀ ≤ s.heap.objs.size) (hsm : sysModules < s.heap.objs.size) :
    Wp p w n₀ ann c (fr :: st) (eval (.Dict ks vs dp) env) (fun v q s' n => v = .ref s.heap.objs.size ∧ s' = dictAfter N kv s ∧ n ≤ m + 1000 * N + 2001) pos s m := by
  rw [arm_eval_Dict]
  refine .bind (.standAt ?_)
  obtain ⟨e1, hP⟩ := prs_of env dp hkv
  rw [e1]
  have h17 : (kv.take 17).length = 17 := by rw [List.length_take]; omega
  have hd : (kv.drop 17).length = 17 * N + r := by rw [List.length_drop]; omega
  obtain ⟨h1, h2, h3⟩ := Pairs2.cut N (hP.drop 17) (by rw [hd]; omega)
  have hcl : (cut N ((prsOf ks vs env dp).drop 17)).1.length = (cut N (kv.drop 17)).1.length := by rw [cut_len, cut_len]
  have ep : prsOf ks vs env dp = (prsOf ks vs env dp).take 17 ++ ((((cut N ((prsOf ks vs env dp).drop 17)).1.zip (cut N (kv.drop 17)).1).map (·.1)).flatten ++ (cut N ((prsOf ks vs env dp).drop 17)).2) := by
    rw [zip_fst hcl, cut_flat, List.take_append_drop]
  have ek : kv = kv.take 17 ++ ((((cut N ((prsOf ks vs env dp).drop 17)).1.zip (cut N (kv.drop 17)).1).map (·.2)).flatten ++ (cut N (kv.drop 17)).2) := by
    rw [zip_snd hcl, cut_flat, List.take_append_drop]
  have em : (prsOf ks vs env dp).map asItem = ((prsOf ks vs env dp).take 17).map asItem ++ (((((cut N ((prsOf ks vs env dp).drop 17)).1.zip (cut N (kv.drop 17)).1).map (·.1)).flatten).map asItem ++ ((cut N ((prsOf ks vs env dp).drop 17)).2).map asItem) := by
    rw [← List.map_append, ← List.map_append, ← ep]
  rw [em]
  have hzl : ((cut N ((prsOf ks vs env dp).drop 17)).1.zip (cut N (kv.drop 17)).1).length = N := by
    rw [List.length_zip, cut_len, cut_len, Nat.min_self]
  refine wpDisplay (base := s.heap) hb hsm (hP.take 17) h17 h1 h2 (by rw [h3, hd]; omega) (by intro e; rw [e] at h3; simp at h3; omega) (by rw [hzl]; omega) (hp_nil _) (by rw [← ek]; exact apart_asc (by omega) hasc) fun q j hj => ⟨rfl, ?_, ?_⟩
  · rw [zip_snd hcl, hzl]
    rfl
  · rw [hzl] at hj; omega
end
end Mine
namespace Mine
theorem assign_wrap {ts : List Expr} {d : Expr} {ap : Pos} {env : Env} (h1 : swapsWithSole ts d ap.line env = (pure false : Sem Bool)) (h2 : swappedStores ts d env = (pure none : Sem (Option (List Str))))
    (K : Flow → Sem Fin) (H : Value → Sem Fin) (gd : Bool → Bool) (lv : List Value → List Value) :
    (exec (.Assign ts d ap) env).wrap K H gd lv = .at ap fun _ => (eval d env).wrap (fun v => (assignStores env v none ((assignEach ts env).map (·.2))).wrap K H gd lv) H gd lv := by
  rw [arm_exec_Assign, h1]
  have e : ∀ (g : Value → Sem Flow), (eval d env >>= g).wrap K H gd lv = (eval d env).wrap (fun v => (g v).wrap K H gd lv) H gd lv := fun g => by
    rw [Sem.bind_eq_wrap', Sem.wrap_wrap]; rfl
  rw [← e]
  rw [h2]
  rfl
end Mine


end
section
open PySem PySem.W PyProof.Rows PySem.Calls
namespace Mine
section
variable {prog : Program} {w : World} {A : Around} {E : Value → Shared → Prop} {s : Shared} {env : Env} {h₀ : Heap} {x : Str} {body : List Stmt} {Q : Flow → Shared → Prop}
/-- what is left of a loop over a text's signs -/
def TextRest (prog : Program) (w : World) (A : Around) (E : Value → Shared → Prop) (h₀ : Heap) (env : Env) (x : Str) (body : List Stmt) (Q : Flow → Shared → Prop) (s : Shared) (I : Addr) : List Nat → (Str → Option Value) → List (Addr × Obj) → Prop
  | [], m, news => ∀ h tk, Fr h₀ env.locals h m → News h₀ env.locals h news → Q .next { s with heap := h, toks := tk }
  | c :: r, m, news => ∀ (it : Obj) t h tk, Fr h₀ env.locals h (fun y => if y = x then some (.str ⟨#[c]⟩ t) else m y) → News h₀ env.locals h ((I, it) :: news) →
      wpAny (model prog w) A (execs body env) (UnrPost h₀ env.locals { s with heap := h, toks := tk } I it (TextRest prog w A E h₀ env x body Q s I r) Q) E { s with heap := h, toks := tk }
theorem TextRest.zero {I : Addr} {m : Str → Option Value} {news : List (Addr × Obj)} (h : ∀ h tk, Fr h₀ env.locals h m → News h₀ env.locals h news → Q .next { s with heap := h, toks := tk }) : TextRest prog w A E h₀ env x body Q s I [] m news := h
theorem TextRest.succ {I : Addr} {c : Nat} {r : List Nat} {m : Str → Option Value} {news : List (Addr × Obj)} (h : ∀ (it : Obj) t h tk, Fr h₀ env.locals h (fun y => if y = x then some (.str ⟨#[c]⟩ t) else m y) → News h₀ env.locals h ((I, it) :: news) →
      wpAny (model prog w) A (execs body env) (UnrPost h₀ env.locals { s with heap := h, toks := tk } I it (TextRest prog w A E h₀ env x body Q s I r) Q) E { s with heap := h, toks := tk }) : TextRest prog w A E h₀ env x body Q s I (c :: r) m news := h

theorem text_walks {xt : Str} {tx : Tok} {nm : String} {o : Obj} {m₀ : Str → Option Value} {news : List (Addr × Obj)}
    (W : Walks prog w A s.heap.objs.size [s.heap.objs.size] [s.heap.objs.size] xt.cps.size (SignAt xt) (fun i h => h.IsStrIter s.heap.objs.size nm xt tx i)) (hst : (s.heap.push o).IsStrIter s.heap.objs.size nm xt tx 0)
    (F : Fr h₀ env.locals s.heap m₀) (N : News h₀ env.locals s.heap news) (rest : TextRest prog w A E h₀ env x body Q s s.heap.objs.size xt.cps.toList m₀ news) :
    LoopAtV prog w A h₀ env x body Q E (.ref s.heap.objs.size) { s with heap := s.heap.push o } := by
  have hnew := next_is_new F
  let J : Nat → (Str → Option Value) → List (Addr × Obj) → Prop := fun i m₁ news₁ => TextRest prog w A E h₀ env x body Q s s.heap.objs.size (xt.cps.toList.drop i) m₁ news₁
  refine ⟨_, _, _, xt.cps.size, _, _, m₀, news, J, rfl, W, ?_, ?_, ?_, hst, F.push _, (fun p hp => ⟨Heap.get?_push_of_some _ (N p hp).1, (N p hp).2⟩), rest, ?_, ?_⟩
  · intro hm
    exact absurd F.ns.lt ((List.mem_singleton.mp hm) ▸ Nat.lt_irrefl _)
  · intro b hb
    rw [List.mem_singleton.mp hb]
    exact hnew
  · intro p hp hI
    exact absurd (Heap.lt_size (N p hp).1) ((List.mem_singleton.mp hI) ▸ Nat.lt_irrefl _)
  · rintro i v m₁ news₁ s₁ own ⟨hh', tk', rfl⟩ hin ⟨c, u, hc, rfl⟩ hJ hoff hown hget hall hst' F₁ N₁
    obtain ⟨it, hit, _⟩ := hst'
    have hmemI := hall s.heap.objs.size (List.mem_cons_self ..) hnew _ hit
    have hdrop : xt.cps.toList.drop i = c :: xt.cps.toList.drop (i + 1) := by
      have hlt' : i < xt.cps.toList.length := by simpa using hin
      rw [List.drop_eq_getElem_cons hlt']
      congr 1
      have : xt.cps.toList[i]? = some c := by simpa using hc
      exact Option.some.inj ((List.getElem?_eq_getElem hlt').symm.trans this)
    have hJ' : TextRest prog w A E h₀ env x body Q s s.heap.objs.size (c :: xt.cps.toList.drop (i + 1)) m₁ news₁ := by rw [← hdrop]; exact hJ
    have N₂ : News h₀ env.locals hh' ((s.heap.objs.size, it) :: news₁) := fun p hp => by
      rcases List.mem_cons.mp hp with rfl | hp
      · exact N₁ _ (List.mem_append_left _ hmemI)
      · exact N₁ _ (List.mem_append_right _ hp)
    refine wpAny_mono (hJ' it u hh' tk' F₁ N₂) (fun f s₂ p => ?_) fun _ _ e => e
    have fin : UnrEnd h₀ env.locals { s with heap := hh', toks := tk' } s.heap.objs.size it (TextRest prog w A E h₀ env x body Q s s.heap.objs.size (xt.cps.toList.drop (i + 1))) s₂ →
        LoopStepU h₀ env.locals [s.heap.objs.size] own (J (i + 1)) { s with heap := hh', toks := tk' } .next s₂ := by
      rintro ⟨h', tk, m', news', e, F', N', ho, r⟩
      refine ⟨rfl, h', tk, m', news', e, F', fun p hp => ?_, fun p hp hI => ho p hp (List.mem_singleton.mp hI), r⟩
      rcases List.mem_append.mp hp with hp | hp
      · have h2 : hh'.get? p.1 = some p.2 := hget p hp
        have h1 := List.mem_singleton.mp (hown p hp)
        have h3 : p = (s.heap.objs.size, it) := by
          rw [h1, hit] at h2
          exact Prod.ext h1 (Option.some.inj h2).symm
        rw [h3]; exact N' _ (List.mem_cons_self ..)
      · exact N' _ (List.mem_cons_of_mem _ hp)
    cases f with
    | ret v => exact .ret p
    | brk => exact .brk p
    | next => exact .next (fin p)
    | cont => exact .cont (fin p)
  · rintro h' tk m' news' F' N' _ hJ
    have z : xt.cps.toList.drop xt.cps.size = [] := by rw [List.drop_eq_nil_iff]; simp
    have hJ' : TextRest prog w A E h₀ env x body Q s s.heap.objs.size [] m' news' := by rw [← z]; exact hJ
    exact hJ' h' tk F' N'
theorem iter_text {xt : Str} {tx : Tok} {m₀ : Str → Option Value} {news : List (Addr × Obj)} (hh : A.handled = none) (F : Fr h₀ env.locals s.heap m₀) (N : News h₀ env.locals s.heap news)
    (rest₀ : ∀ I : Addr, (∀ p ∈ news, p.1 < I) → TextRest prog w A E h₀ env x body Q s I xt.cps.toList m₀ news) :
    wpAny (model prog w) A (pyIter (.str xt tx)) (fun it s₂ => LoopAtV prog w A h₀ env x body Q E it s₂) E s := by
  have rest := rest₀ s.heap.objs.size fun p hp => Heap.lt_size (N p hp).1
  cases ha : xt.cps.all (· < 128)
  · exact wpAny_pyIter_wide ha (text_walks (Walks.strWide hh _ xt tx) ⟨_, Heap.get?_push_size _ rfl, rfl, rfl⟩ F N rest)
  · exact wpAny_pyIter_ascii ha (text_walks (Walks.strAscii hh _ xt tx) ⟨_, Heap.get?_push_size _ rfl, rfl, rfl⟩ F N rest)
/-- a turn's end: the iterator stands, the rest goes on -/
theorem unrEnd_lt {L I : Addr} {it : Obj} {rest : (Str → Option Value) → List (Addr × Obj) → Prop} {s₁ : Shared} {h' : Heap} {tk : Nat} {m' : Str → Option Value} {all : List (Addr × Obj)} (F : Fr h₀ L h' m') (N : News h₀ L h' all) (news' : List (Addr × Obj))
    (hI : (I, it) ∈ all) (sub : ∀ p ∈ news', p ∈ all) (off : ∀ p ∈ news', p.1 < I ∨ I < p.1) (r : rest m' news') : UnrEnd h₀ L s₁ I it rest { s₁ with heap := h', toks := tk } :=
  UnrEnd.intro F N news' (fun p hp => by
    rcases List.mem_cons.mp hp with rfl | hp
    · exact hI
    · exact sub p hp) (fun p hp e => by
    rcases off p hp with h | h <;> (rw [e] at h; exact Nat.lt_irrefl _ h)) r
end
end Mine

end
section
open PySem PySem.W PyProof.Rows PySem.Calls
namespace Mine
abbrev pw : Program := PySem.Challenge.pw_dw5011_03
abbrev ann0 : Option Value := some (.ref 6)
def bodyM : List Stmt := behindTheImports pw
def envM : Env := { scope := pw.main.scope, locals := mainNs, globals := mainNs, cells := [], code := .ref 13, frame := some 14 }
abbrev codeM : Code := .body (behindTheImports pw) envM
abbrev q0 : Pos := ⟨0, 0, 0, 0⟩
noncomputable def S0 (w : World) (os : OsState) : Shared := ⟨boot_heap w.params, #[], boot_drawn, boot_toks, os⟩
noncomputable def SA0 (w : World) (os : OsState) : Shared := ((topGo treeTable pw w 11 ann0 12 (S0 w os) (topStub pw)).map (·.1)).getD (S0 w os)
theorem pre_run (w : World) (os : OsState) : topGo treeTable pw w 11 ann0 12 (S0 w os) (topStub pw) = some (SA0 w os, ⟨denote treeTable codeM, codeM, q0, [topFrame q0]⟩) := by kernel_rfl
def stm (i : Nat) : Stmt := (behindTheImports pw).getD i (.Pass q0)
def restM : List Stmt := (behindTheImports pw).drop 2
theorem body_split : behindTheImports pw = stm 0 :: stm 1 :: restM := by kernel_rfl
theorem block_run (w : World) (os : OsState) : segRun treeTable pw w 11 ann0 1 1 (SA0 w os) (blockOf (behindTheImports pw) envM codeM q0 [topFrame q0]) = some (.next, SA0 w os, codeM, q0) := by kernel_rfl
noncomputable def SA1 (w : World) (os : OsState) : Shared := ((segRun treeTable pw w 11 ann0 1 10 (SA0 w os) (pieceOf (stm 0) envM codeM q0 [topFrame q0])).map (·.2.1)).getD (S0 w os)
theorem piece0_run (w : World) (os : OsState) : segRun treeTable pw w 11 ann0 1 10 (SA0 w os) (pieceOf (stm 0) envM codeM q0 [topFrame q0]) = some (.next, SA1 w os, codeM, ⟨1, 0, 1, 8⟩) := by kernel_rfl
/-- the keys and the values of the display -/
def dKs : List (Option Expr) := match stm 1 with | .Assign _ (.Dict ks _ _) _ => ks | _ => []
def dVs : List Expr := match stm 1 with | .Assign _ (.Dict _ vs _) _ => vs | _ => []
def dDp : Pos := match stm 1 with | .Assign _ (.Dict _ _ dp) _ => dp | _ => q0
def dTs : List Expr := match stm 1 with | .Assign ts _ _ => ts | _ => []
def dAp : Pos := match stm 1 with | .Assign _ _ ap => ap | _ => q0
theorem stm1 : stm 1 = .Assign dTs (.Dict dKs dVs dDp) dAp := by kernel_rfl
def kv : List (Int × Str) := (kvOf dKs dVs).getD []
theorem kv_of : kvOf dKs dVs = some kv := by kernel_rfl
theorem kv_len : kv.length = 17 * (37 + 1) + 4 := by kernel_rfl
theorem kv_asc : asc (-1) kv = true := by kernel_rfl
theorem sa1_size (w : World) (os : OsState) : (SA1 w os).heap.objs.size = 15 := by kernel_rfl
theorem sa1_toks (w : World) (os : OsState) : (SA1 w os).toks = 189 := by kernel_rfl
noncomputable def SE (w : World) (os : OsState) : Shared := dictAfter 37 kv (SA1 w os)
theorem no_swap : swapsWithSole dTs (.Dict dKs dVs dDp) dAp.line envM = (pure false : Sem Bool) := by kernel_rfl
theorem no_swapped : swappedStores dTs (.Dict dKs dVs dDp) envM = (pure none : Sem (Option (List Str))) := by kernel_rfl
def tailF (v : Value) : Sem Flow := assignStores envM v none ((assignEach dTs envM).map (·.2))
noncomputable def SD (w : World) (os : OsState) : Shared := ((segRun treeTable pw w 11 ann0 1 10 (SE w os) ⟨(tailF (.ref 15)).wrap doneF deadEnd id id, codeM, q0, [topFrame q0]⟩).map (·.2.1)).getD (S0 w os)
theorem tail_run (w : World) (os : OsState) (q : Pos) : segRun treeTable pw w 11 ann0 1 10 (SE w os) ⟨(tailF (.ref 15)).wrap doneF deadEnd id id, codeM, q, [topFrame q0]⟩ = some (.next, SD w os, codeM, ⟨2, 0, 2, 13⟩) := by kernel_rfl
theorem dict_reach (w : World) (os : OsState) (p1 : Pos) (K : Flow → Sem Fin) (H : Value → Sem Fin) (gd : Bool → Bool) (lv : List Value → List Value) :
    ∃ q n, n ≤ 39002 ∧ Reach pw w 11 ann0 n (SA1 w os) ⟨(exec (stm 1) envM).wrap K H gd lv, codeM, p1, [topFrame q0]⟩ (SE w os) ⟨(tailF (.ref 15)).wrap K H gd lv, codeM, q, [topFrame q0]⟩ := by
  obtain ⟨v, q, s', n, ⟨rfl, rfl, hn⟩, hr⟩ := wpDict (p := pw) (w := w) (n₀ := 11) (ann := ann0) (c := codeM) (fr := topFrame q0) (st := []) (pos := dAp) (s := SA1 w os) (m := 0) (env := envM) (dp := dDp) (N := 37) (r := 4) kv_of kv_len (by omega) (by omega) (by omega) kv_asc
    (by rw [sa1_size]; omega) (by rw [sa1_size]; decide)
  refine ⟨q, 1 + n, by omega, ?_⟩
  rw [stm1, assign_wrap no_swap no_swapped]
  refine .trans (.one (s1 := SA1 w os) (t1 := ⟨(eval (.Dict dKs dVs dDp) envM).wrap (fun v => (tailF v).wrap K H gd lv) H gd lv, codeM, dAp, [topFrame q0]⟩) rfl rfl rfl) ?_
  have := hr (fun v => (tailF v).wrap K H gd lv) H gd lv
  rw [sa1_size] at this
  exact this
theorem dict_run (w : World) (os : OsState) : ∃ n, n ≤ 39012 ∧ segRun treeTable pw w 11 ann0 1 n (SA1 w os) (pieceOf (stm 1) envM codeM ⟨1, 0, 1, 8⟩ [topFrame q0]) = some (.next, SD w os, codeM, ⟨2, 0, 2, 13⟩) := by
  obtain ⟨q, n, hn, hr⟩ := dict_reach w os ⟨1, 0, 1, 8⟩ doneF deadEnd id id
  exact ⟨n + 10, by omega, seg_go hr (tail_run w os q)⟩
noncomputable def SF (w : World) (os : OsState) : Shared := (topRun treeTable pw w 11 ann0 400 (SD w os) (restOf restM envM codeM ⟨2, 0, 2, 13⟩ [topFrame q0])).getD (S0 w os)
theorem rest_run (w : World) (os : OsState) : topRun treeTable pw w 11 ann0 400 (SD w os) (restOf restM envM codeM ⟨2, 0, 2, 13⟩ [topFrame q0]) = some (SF w os) := by kernel_rfl
theorem sf_size (w : World) (os : OsState) : (SF w os).heap.objs.size = 110 := by kernel_rfl
theorem run_all (w : World) (os : OsState) : topRun treeTable pw w 11 ann0 50000 (S0 w os) (topStub pw) = some (SF w os) := by
  obtain ⟨n, hn, h⟩ := dict_run w os
  have e := go_top (pre_run w os) (piece_block (block_run w os) (body_split ▸ piece_cons (piece0_run w os) (piece_cons h (rest_run w os))))
  have := topRun_mono (50000 - (12 + (1 + (10 + (n + 400))))) _ _ _ _ e
  rw [show 12 + (1 + (10 + (n + 400))) + (50000 - (12 + (1 + (10 + (n + 400))))) = 50000 by omega] at this
  exact this
end Mine

end
section
open PySem PySem.W PyProof.Rows PySem.Calls
namespace Mine
def fArgs : Stmt → Arguments
  | .FunctionDef _ a _ _ _ _ _ _ _ _ => a
  | _ => { posonlyargs := [], args := [], vararg := none, kwonlyargs := [], kw_defaults := [], kwarg := none, defaults := [] }
def fBody : Stmt → List Stmt
  | .FunctionDef _ _ b _ _ _ _ _ _ _ => b
  | _ => []
def fScope : Stmt → Scope
  | .FunctionDef _ _ _ _ _ _ sc _ _ _ => sc
  | _ => pw.main.scope
abbrev rhsOf {α : Type} {a b : α} (_ : a = b) : α := b
@[reducible] def FA2 : Arguments := @rhsOf _ (fArgs (stm 2)) _ (by conv => (lhs; whnf))
@[reducible] def FB2 : List Stmt := @rhsOf _ (fBody (stm 2)) _ (by conv => (lhs; whnf))
@[reducible] def FS2 : Scope := @rhsOf _ (fScope (stm 2)) _ (by conv => (lhs; whnf))
@[reducible] def FA6 : Arguments := @rhsOf _ (fArgs (stm 6)) _ (by conv => (lhs; whnf))
@[reducible] def FB6 : List Stmt := @rhsOf _ (fBody (stm 6)) _ (by conv => (lhs; whnf))
@[reducible] def FS6 : Scope := @rhsOf _ (fScope (stm 6)) _ (by conv => (lhs; whnf))
@[reducible] def FA7 : Arguments := @rhsOf _ (fArgs (stm 7)) _ (by conv => (lhs; whnf))
@[reducible] def FB7 : List Stmt := @rhsOf _ (fBody (stm 7)) _ (by conv => (lhs; whnf))
@[reducible] def FS7 : Scope := @rhsOf _ (fScope (stm 7)) _ (by conv => (lhs; whnf))
@[reducible] def FA8 : Arguments := @rhsOf _ (fArgs (stm 8)) _ (by conv => (lhs; whnf))
@[reducible] def FB8 : List Stmt := @rhsOf _ (fBody (stm 8)) _ (by conv => (lhs; whnf))
@[reducible] def FS8 : Scope := @rhsOf _ (fScope (stm 8)) _ (by conv => (lhs; whnf))
@[reducible] def FA9 : Arguments := @rhsOf _ (fArgs (stm 9)) _ (by conv => (lhs; whnf))
@[reducible] def FB9 : List Stmt := @rhsOf _ (fBody (stm 9)) _ (by conv => (lhs; whnf))
@[reducible] def FS9 : Scope := @rhsOf _ (fScope (stm 9)) _ (by conv => (lhs; whnf))
noncomputable def K : Params → Frag := fun P =>
  (nat_lit 2, (⟨.none, none, (.dict [].toArray 0), #[]⟩ : Obj)) ::
  (nat_lit 3, (⟨(.type "dict"), none, (.dict [⟨PyData.keyHash P (Str.ofString "__name__"), (.str (Str.ofString "__name__") 165), (.str (Str.ofString "law_dw5011_03") 2148)⟩, ⟨PyData.keyHash P (Str.ofString "__doc__"), (.str (Str.ofString "__doc__") 166), .none⟩, ⟨PyData.keyHash P (Str.ofString "__package__"), (.str (Str.ofString "__package__") 167), .none⟩, ⟨PyData.keyHash P (Str.ofString "__loader__"), (.str (Str.ofString "__loader__") 168), (.builtin "__main__.__loader__#opaque")⟩, ⟨PyData.keyHash P (Str.ofString "__spec__"), (.str (Str.ofString "__spec__") 169), .none⟩, ⟨PyData.keyHash P (Str.ofString "__annotations__"), (.str (Str.ofString "__annotations__") 170), (.ref 6)⟩, ⟨PyData.keyHash P (Str.ofString "__builtins__"), (.str (Str.ofString "__builtins__") 171), (.ref 4)⟩, ⟨PyData.keyHash P (Str.ofString "__file__"), (.str (Str.ofString "__file__") 173), (.str (Str.ofString "/claim/cut.py") 172)⟩, ⟨PyData.keyHash P (Str.ofString "__cached__"), (.str (Str.ofString "__cached__") 174), .none⟩, ⟨PyData.keyHash P (Str.ofString "b3_exceptions"), (.str (Str.ofString "b3_exceptions") 2139), (.ref 15)⟩, ⟨PyData.keyHash P (Str.ofString "map_table_b3"), (.str (Str.ofString "map_table_b3") 2147), (.ref 60)⟩, ⟨PyData.keyHash P (Str.ofString "_law_ROWS"), (.str (Str.ofString "_law_ROWS") 2174), (.ref 73)⟩, ⟨PyData.keyHash P (Str.ofString "_law_TIED"), (.str (Str.ofString "_law_TIED") 2191), (.ref 81)⟩, ⟨PyData.keyHash P (Str.ofString "_law_written"), (.str (Str.ofString "_law_written") 2198), (.ref 88)⟩, ⟨PyData.keyHash P (Str.ofString "_law_two"), (.str (Str.ofString "_law_two") 2206), (.ref 95)⟩, ⟨PyData.keyHash P (Str.ofString "_law_walk"), (.str (Str.ofString "_law_walk") 2216), (.ref 102)⟩, ⟨PyData.keyHash P (Str.ofString "law"), (.str (Str.ofString "law") 2230), (.ref 109)⟩].toArray 17), #[]⟩ : Obj)) ::
  (nat_lit 6, (⟨(.type "dict"), none, (.dict [].toArray 0), #[]⟩ : Obj)) ::
  (nat_lit 15, (⟨(.type "dict"), none, (.dict (dictEs 189 37 kv).toArray 650), #[]⟩ : Obj)) ::
  (nat_lit 54, (⟨(.type "tuple"), none, (.seq [].toArray 0), #[]⟩ : Obj)) ::
  (nat_lit 56, (⟨(.type "tuple"), none, (.seq [(.str (Str.ofString "code") 2143), (.str (Str.ofString "r") 2144)].toArray 0), #[]⟩ : Obj)) ::
  (nat_lit 57, (⟨(.type "tuple"), none, (.seq [].toArray 0), #[]⟩ : Obj)) ::
  (nat_lit 59, (⟨(.type "code"), none, (.fields #[(.str (Str.ofString "map_table_b3") 2140), (.str (Str.ofString "map_table_b3") 2141), (.str (Str.ofString "/claim/cut.py") 2142), (.int (3) 0), (.int (1) 0), (.int (0) 0), (.int (0) 0), (.int (3) 0), (.ref 54), (.bool true), (.int (181) 0), (.ref 55), .none, (.ref 56), (.ref 57), (.ref 58), (.int (2145) 0), (.int (3) 0), (.str (Str.ofString "/claim/cut.py") 2146)]), #[]⟩ : Obj)) ::
  (nat_lit 60, (⟨(.type "function"), none, (.func (fnOf (Str.ofString "map_table_b3") (Str.ofString "map_table_b3") FA2 FB2 FS2 .none .none .none (.str (Str.ofString "cpy313.stringprep") 187) none (.ref 59) .none)), #[]⟩ : Obj)) ::
  (nat_lit 61, (⟨(.type "tuple"), none, (.seq [(.int (0) 2150), (.int (128) 2151)].toArray 0), #[]⟩ : Obj)) ::
  (nat_lit 62, (⟨(.type "tuple"), none, (.seq [(.int (160) 2152), (.int (96) 2153)].toArray 0), #[]⟩ : Obj)) ::
  (nat_lit 63, (⟨(.type "tuple"), none, (.seq [(.int (913) 2154), (.int (17) 2155)].toArray 0), #[]⟩ : Obj)) ::
  (nat_lit 64, (⟨(.type "tuple"), none, (.seq [(.int (931) 2156), (.int (7) 2157)].toArray 0), #[]⟩ : Obj)) ::
  (nat_lit 65, (⟨(.type "tuple"), none, (.seq [(.int (945) 2158), (.int (25) 2159)].toArray 0), #[]⟩ : Obj)) ::
  (nat_lit 66, (⟨(.type "tuple"), none, (.seq [(.int (1024) 2160), (.int (96) 2161)].toArray 0), #[]⟩ : Obj)) ::
  (nat_lit 67, (⟨(.type "tuple"), none, (.seq [(.int (1329) 2162), (.int (38) 2163)].toArray 0), #[]⟩ : Obj)) ::
  (nat_lit 68, (⟨(.type "tuple"), none, (.seq [(.int (1377) 2164), (.int (39) 2165)].toArray 0), #[]⟩ : Obj)) ::
  (nat_lit 69, (⟨(.type "tuple"), none, (.seq [(.int (8486) 2166), (.int (1) 2167)].toArray 0), #[]⟩ : Obj)) ::
  (nat_lit 70, (⟨(.type "tuple"), none, (.seq [(.int (8490) 2168), (.int (2) 2169)].toArray 0), #[]⟩ : Obj)) ::
  (nat_lit 71, (⟨(.type "tuple"), none, (.seq [(.int (64256) 2170), (.int (7) 2171)].toArray 0), #[]⟩ : Obj)) ::
  (nat_lit 72, (⟨(.type "tuple"), none, (.seq [(.int (119808) 2172), (.int (26) 2173)].toArray 0), #[]⟩ : Obj)) ::
  (nat_lit 73, (⟨(.type "tuple"), none, (.seq [(.ref 61), (.ref 62), (.ref 63), (.ref 64), (.ref 65), (.ref 66), (.ref 67), (.ref 68), (.ref 69), (.ref 70), (.ref 71), (.ref 72)].toArray 0), #[]⟩ : Obj)) ::
  (nat_lit 74, (⟨(.type "tuple"), none, (.seq [(.int (102) 2175), (.int (102) 2176)].toArray 0), #[]⟩ : Obj)) ::
  (nat_lit 75, (⟨(.type "tuple"), none, (.seq [(.int (102) 2177), (.int (105) 2178)].toArray 0), #[]⟩ : Obj)) ::
  (nat_lit 76, (⟨(.type "tuple"), none, (.seq [(.int (102) 2179), (.int (108) 2180)].toArray 0), #[]⟩ : Obj)) ::
  (nat_lit 77, (⟨(.type "tuple"), none, (.seq [(.int (102) 2181), (.int (102) 2182), (.int (105) 2183)].toArray 0), #[]⟩ : Obj)) ::
  (nat_lit 78, (⟨(.type "tuple"), none, (.seq [(.int (102) 2184), (.int (102) 2185), (.int (108) 2186)].toArray 0), #[]⟩ : Obj)) ::
  (nat_lit 79, (⟨(.type "tuple"), none, (.seq [(.int (115) 2187), (.int (116) 2188)].toArray 0), #[]⟩ : Obj)) ::
  (nat_lit 80, (⟨(.type "tuple"), none, (.seq [(.int (115) 2189), (.int (116) 2190)].toArray 0), #[]⟩ : Obj)) ::
  (nat_lit 81, (⟨(.type "tuple"), none, (.seq [(.ref 74), (.ref 75), (.ref 76), (.ref 77), (.ref 78), (.ref 79), (.ref 80)].toArray 0), #[]⟩ : Obj)) ::
  (nat_lit 82, (⟨(.type "tuple"), none, (.seq [].toArray 0), #[]⟩ : Obj)) ::
  (nat_lit 84, (⟨(.type "tuple"), none, (.seq [(.str (Str.ofString "code") 2195)].toArray 0), #[]⟩ : Obj)) ::
  (nat_lit 85, (⟨(.type "tuple"), none, (.seq [].toArray 0), #[]⟩ : Obj)) ::
  (nat_lit 87, (⟨(.type "code"), none, (.fields #[(.str (Str.ofString "_law_written") 2192), (.str (Str.ofString "_law_written") 2193), (.str (Str.ofString "/claim/cut.py") 2194), (.int (11) 0), (.int (1) 0), (.int (0) 0), (.int (0) 0), (.int (3) 0), (.ref 82), (.bool true), (.int (181) 0), (.ref 83), .none, (.ref 84), (.ref 85), (.ref 86), (.int (2196) 0), (.int (11) 0), (.str (Str.ofString "/claim/cut.py") 2197)]), #[]⟩ : Obj)) ::
  (nat_lit 88, (⟨(.type "function"), none, (.func (fnOf (Str.ofString "_law_written") (Str.ofString "_law_written") FA6 FB6 FS6 .none .none .none (.str (Str.ofString "law_dw5011_03") 2148) none (.ref 87) .none)), #[]⟩ : Obj)) ::
  (nat_lit 89, (⟨(.type "tuple"), none, (.seq [].toArray 0), #[]⟩ : Obj)) ::
  (nat_lit 91, (⟨(.type "tuple"), none, (.seq [(.str (Str.ofString "a") 2202), (.str (Str.ofString "b") 2203)].toArray 0), #[]⟩ : Obj)) ::
  (nat_lit 92, (⟨(.type "tuple"), none, (.seq [].toArray 0), #[]⟩ : Obj)) ::
  (nat_lit 94, (⟨(.type "code"), none, (.fields #[(.str (Str.ofString "_law_two") 2199), (.str (Str.ofString "_law_two") 2200), (.str (Str.ofString "/claim/cut.py") 2201), (.int (19) 0), (.int (2) 0), (.int (0) 0), (.int (0) 0), (.int (3) 0), (.ref 89), (.bool true), (.int (181) 0), (.ref 90), .none, (.ref 91), (.ref 92), (.ref 93), (.int (2204) 0), (.int (19) 0), (.str (Str.ofString "/claim/cut.py") 2205)]), #[]⟩ : Obj)) ::
  (nat_lit 95, (⟨(.type "function"), none, (.func (fnOf (Str.ofString "_law_two") (Str.ofString "_law_two") FA7 FB7 FS7 .none .none .none (.str (Str.ofString "law_dw5011_03") 2148) none (.ref 94) .none)), #[]⟩ : Obj)) ::
  (nat_lit 96, (⟨(.type "tuple"), none, (.seq [].toArray 0), #[]⟩ : Obj)) ::
  (nat_lit 98, (⟨(.type "tuple"), none, (.seq [(.str (Str.ofString "octets") 2210), (.str (Str.ofString "told") 2211), (.str (Str.ofString "k") 2212), (.str (Str.ofString "a") 2213)].toArray 0), #[]⟩ : Obj)) ::
  (nat_lit 99, (⟨(.type "tuple"), none, (.seq [].toArray 0), #[]⟩ : Obj)) ::
  (nat_lit 101, (⟨(.type "code"), none, (.fields #[(.str (Str.ofString "_law_walk") 2207), (.str (Str.ofString "_law_walk") 2208), (.str (Str.ofString "/claim/cut.py") 2209), (.int (47) 0), (.int (1) 0), (.int (0) 0), (.int (0) 0), (.int (3) 0), (.ref 96), (.bool true), (.int (181) 0), (.ref 97), .none, (.ref 98), (.ref 99), (.ref 100), (.int (2214) 0), (.int (47) 0), (.str (Str.ofString "/claim/cut.py") 2215)]), #[]⟩ : Obj)) ::
  (nat_lit 102, (⟨(.type "function"), none, (.func (fnOf (Str.ofString "_law_walk") (Str.ofString "_law_walk") FA8 FB8 FS8 .none .none .none (.str (Str.ofString "law_dw5011_03") 2148) none (.ref 101) .none)), #[]⟩ : Obj)) ::
  (nat_lit 103, (⟨(.type "tuple"), none, (.seq [].toArray 0), #[]⟩ : Obj)) ::
  (nat_lit 105, (⟨(.type "tuple"), none, (.seq [(.str (Str.ofString "script") 2220), (.str (Str.ofString "codes") 2221), (.str (Str.ofString "x") 2222), (.str (Str.ofString "row") 2223), (.str (Str.ofString "octets") 2224), (.str (Str.ofString "folded") 2225), (.str (Str.ofString "code") 2226), (.str (Str.ofString "sign") 2227)].toArray 0), #[]⟩ : Obj)) ::
  (nat_lit 106, (⟨(.type "tuple"), none, (.seq [].toArray 0), #[]⟩ : Obj)) ::
  (nat_lit 108, (⟨(.type "code"), none, (.fields #[(.str (Str.ofString "law") 2217), (.str (Str.ofString "law") 2218), (.str (Str.ofString "/claim/cut.py") 2219), (.int (68) 0), (.int (1) 0), (.int (0) 0), (.int (0) 0), (.int (3) 0), (.ref 103), (.bool true), (.int (181) 0), (.ref 104), .none, (.ref 105), (.ref 106), (.ref 107), (.int (2228) 0), (.int (68) 0), (.str (Str.ofString "/claim/cut.py") 2229)]), #[]⟩ : Obj)) ::
  (nat_lit 109, (⟨(.type "function"), none, (.func (fnOf (Str.ofString "law") (Str.ofString "law") FA9 FB9 FS9 .none .none .none (.str (Str.ofString "law_dw5011_03") 2148) none (.ref 108) .none)), #[]⟩ : Obj)) ::
  []
def asK : List Addr := [2, 3, 6, 15, 54, 56, 57, 59, 60, 61, 62, 63, 64, 65, 66, 67, 68, 69, 70, 71, 72, 73, 74, 75, 76, 77, 78, 79, 80, 81, 82, 84, 85, 87, 88, 89, 91, 92, 94, 95, 96, 98, 99, 101, 102, 103, 105, 106, 108, 109]
def vq : Program := { pw with main := { pw.main with body := [stm 1, stm 2, stm 4, stm 5, stm 6, stm 7, stm 8, stm 9] } }
abbrev looseM : List Str := [Str.ofString "b3_exceptions"]
theorem as_K (P : Params) : asK = (K P).map (·.1) := by kernel_rfl
theorem y_K (w : World) (os : OsState) : asK.map (SF w os).heap.get? = (K w.params).map fun p => some p.2 := by kernel_rfl

theorem open_1 (P : Params) : ((boot_heap P).isNs mainGlobals && (#[] : Array GenState).size == 0, (boot_heap P).objs.size, (boot_heap P).nsMap mainGlobals "__annotations__") = (true, 11, ann0) := by kernel_rfl
theorem look_1 (w : World) (os : OsState) : staticsOk (importedModules pw.main.body) (boot_heap w.params) (SF w os).heap = true := by kernel_rfl
theorem look_2 (w : World) (os : OsState) : namesBound pw (SF w os).heap = true := by kernel_rfl
theorem look_3 (w : World) (os : OsState) : gensDone (SF w os) = true := by kernel_rfl
theorem look_4 (w : World) (os : OsState) : laidKept (boot_heap w.params) (SF w os).heap = true := by kernel_rfl
abbrev rowL := PySem.Challenge.rw_dw5011_03
abbrev XtM : Shared → Bool := fun s => xlAt vq [] s && recOk (RowW.records rowL.row.toRowW) s
def DD : List (Int × PyData) := kv.map fun p => (p.1, PyData.str p.2)
theorem dd_look : KTD.numsLook (dictEs 189 37 kv) DD = true := by kernel_rfl
theorem asc_nodup : ∀ {lo : Int} {r : List (Int × Str)}, asc lo r = true → (r.map (·.1)).Nodup
  | _, [], _ => List.nodup_nil
  | lo, (k, x) :: r, h => by
    have h' : asc k r = true := by simp only [asc, Bool.and_eq_true] at h; exact h.2
    rw [List.map_cons, List.nodup_cons]
    refine ⟨fun hm => ?_, asc_nodup h'⟩
    obtain ⟨q, hq, e⟩ := List.mem_map.mp hm
    have := asc_all h' q hq
    simp only at e
    omega
theorem dd_nodup : (DD.map (·.1)).Nodup := by
  have e : DD.map (·.1) = kv.map (·.1) := by unfold DD; rw [List.map_map]; rfl
  rw [e]; exact asc_nodup kv_asc
/-- the looks at one name's table -/
def tableOne (p : Program) (h : Heap) (x : Str) : Bool :=
  (match tupIntsOf p x with | some ns => h.tupIntsOk x ns | none => true) &&
  (match tupStrsOf p x with | some ss => h.tupStrsOk x ss | none => true) &&
  (match tabIntOf p x with | some D => h.tabIntOk x D | none => true)
abbrev bX : Str := Str.ofString "b3_exceptions"
theorem names_split : valNames vq = bX :: (valNames vq).tail := by kernel_rfl
theorem tab_b3 : (tupIntsOf vq bX, tupStrsOf vq bX, tabIntOf vq bX) = (none, none, some (DD.map fun p => (PyData.int p.1, p.2))) := by kernel_rfl
theorem heap15 (w : World) (os : OsState) : ((SF w os).heap.get? 15, (SF w os).heap.nsMap mainGlobals bX, (valNames vq).tail.all (tableOne vq (SF w os).heap)) = (some ⟨.type "dict", none, .dict (dictEs 189 37 kv).toArray 650, #[]⟩, some (.ref 15), true) := by kernel_rfl
theorem tables_ok (w : World) (os : OsState) : tablesOk vq (SF w os).heap = true := by
  have h := heap15 w os
  have t := tab_b3
  simp only [Prod.mk.injEq] at h t
  obtain ⟨h1, h2, h3⟩ := h
  obtain ⟨t1, t2, t3⟩ := t
  show (valNames vq).all (tableOne vq (SF w os).heap) = true
  rw [names_split, List.all_cons, h3, Bool.and_true]
  unfold tableOne
  rw [t1, t2, t3]
  show (true && true && (SF w os).heap.tabIntOk bX (DD.map fun p => (PyData.int p.1, p.2))) = true
  rw [Bool.true_and, Bool.true_and]
  obtain ⟨hk, kvs, hp, hf, hm⟩ := KTD.nums_of_look pw w dd_look
  exact tabIntOk_complete (prog := pw) (w := w) h2 ⟨by decide, kvs, ⟨_, (dictEs 189 37 kv).toArray, 650, h1, ⟨rfl, rfl, rfl⟩, rfl, fun e he => hk e (by simpa using he), hp, by rw [hm]; exact dd_nodup⟩, hf⟩
theorem look_a (w : World) (os : OsState) : (seen ((recsOf vq).map (·.name)) (ownsOf vq) [] { SF w os with gens := #[] }, (SF w os).heap.bltView,
   ((SF w os).heap.keysOk (looseW vq looseM) ((recsOf vq).map (·.name)) ((litsOf vq).map (·.1)) ((clssOf vq (looseW vq looseM)).map (·.name)) && (SF w os).heap.accountedOkI (importedModules pw.main.body) && (SF w os).heap.isNs mainGlobals && (SF w os).heap.isNs builtinsNs),
   (XtM (SF w os), (SF w os).gens.size == 0),
   tabsOk vq (SF w os), pinSeenD vq (drecsOf vq) (SF w os), plainSeenE vq (looseW vq looseM) (SF w os), plainSeenD vq looseM (SF w os), wideSeen vq (SF w os), clsSeenW vq looseM (SF w os)) =
  (expectedOf vq, bltViewBooted, true, (true, true), true, pinGoodD (drecsOf vq), plainGoodE vq (looseW vq looseM), plainGoodD vq looseM, wideGood vq, clsGoodW vq looseM) := by kernel_rfl
theorem look_5 (w : World) (os : OsState) : openSeen vq looseM (importedModules pw.main.body) XtM true (SF w os) = openGood vq looseM := by
  have h := look_a w os
  simp only [Prod.mk.injEq] at h
  obtain ⟨a1, a2, a3, ⟨a4, a5⟩, a6, a7, a8, a9, a10, a11⟩ := h
  unfold openSeen openGood
  rw [a1, a2, a3, tables_ok, a4, a6, a7, a8, a9, a10, a11]
  rw [if_pos rfl, a5]
  rfl

theorem top_from (w : World) (os : OsState) : topFrom treeTable pw w 50000 (S0 w os) = some (SF w os) := by
  unfold topFrom
  have h1 := open_1 w.params
  simp only [Prod.mk.injEq] at h1
  obtain ⟨a1, a2, a3⟩ := h1
  rw [show ((S0 w os).heap.isNs mainGlobals && (S0 w os).gens.size == 0) = true from a1, show (S0 w os).heap.objs.size = 11 from a2, show (S0 w os).heap.nsMap mainGlobals "__annotations__" = ann0 from a3]
  dsimp only
  rw [run_all, Option.bind_some]
  rw [show (S0 w os).heap = boot_heap w.params from rfl, look_1, look_2, look_3, look_4]
  rfl
end Mine

end
section
open PySem PySem.W PyProof.Rows PySem.Calls
namespace Mine
theorem left : LeftO pw vq looseM XtM (Hook.obs (kHook K asK as_K)) (Hook.val (kHook K asK as_K)) 50000 := by
  intro w
  have ho := boot_open (p := pw) (N := 50000) (by kernel_rfl) (by rfl) (fun s => rfl) w
  obtain ⟨s, hs, hv⟩ := Option.map_eq_some_iff.mp ho
  obtain ⟨h, g, d, k, os⟩ := s
  obtain ⟨rfl, rfl, rfl, rfl⟩ : h = boot_heap w.params ∧ g = Array.mk [] ∧ d = boot_drawn ∧ k = boot_toks := by simpa using hv
  unfold openEnds
  rw [hs, Option.bind_some]
  refine (congrArg (Option.map _) (top_from w os)).trans ?_
  rw [Option.map_some, look_5]
  exact congrArg (fun x => some (openGood vq looseM, x)) (y_K w os)
end Mine

end
section
open PySem PySem.W PyProof.Rows PySem.Calls
namespace Mine
theorem k15 (P : Params) : (K P).lookup 15 = some ⟨.type "dict", none, .dict (dictEs 189 37 kv).toArray 650, #[]⟩ := by kernel_rfl
theorem keyed15 {P : Params} {h : Heap} (X : (K P).In h) : KTD.Keyed h 15 DD := by
  intro prog w
  obtain ⟨hk, kvs, hp, hf, hm⟩ := KTD.nums_of_look prog w dd_look
  exact ⟨by decide, kvs, ⟨_, (dictEs 189 37 kv).toArray, 650, X _ _ (k15 P), ⟨rfl, rfl, rfl⟩, rfl, fun e he => hk e (by simpa using he), hp, by rw [hm]; exact dd_nodup⟩, hf⟩
/-- what the function under test gives for one sign -/
def fold (c : Nat) : Str := match KTD.datumAt (c : Int) DD with
  | some (.str y) => y
  | _ => Txt.lower ⟨#[c]⟩
theorem dd_str : ∀ {D : List (Int × Str)} {k : Int} {d : PyData}, KTD.datumAt k (D.map fun p => (p.1, PyData.str p.2)) = some d → ∃ y, d = .str y
  | [], k, d, h => by simp [KTD.datumAt] at h
  | (j, y) :: D, k, d, h => by
    simp only [List.map_cons, KTD.datumAt] at h
    split at h
    · cases h; exact ⟨y, rfl⟩
    · exact dd_str h
theorem each_of {h₀ : Heap} {k : Int} {P : Value → Prop} {els : Prop} : ∀ {D : List (Int × Str)}, (∀ y t, KTD.datumAt k (D.map fun p => (p.1, PyData.str p.2)) = some (.str y) → P (.str y t)) → (KTD.datumAt k (D.map fun p => (p.1, PyData.str p.2)) = none → els) →
    KTD.Each h₀ k P els (KTD.asDat (D.map fun p => (p.1, PyData.str p.2)))
  | [], _, h2 => h2 rfl
  | (j, y) :: D, h1, h2 => by
    refine KTD.each_ite ?_
    by_cases e : k = j
    · rw [if_pos (decide_eq_true e)]
      refine KTD.opened_str fun t => h1 y t ?_
      simp only [List.map_cons, KTD.datumAt]
      rw [if_pos (decide_eq_true e)]
    · rw [if_neg (by simp [e])]
      refine each_of (D := D) (fun y' t hy => h1 y' t ?_) (fun hn => h2 ?_)
      · simp only [List.map_cons, KTD.datumAt]
        rw [if_neg (by simp [e])]; exact hy
      · simp only [List.map_cons, KTD.datumAt]
        rw [if_neg (by simp [e])]; exact hn
section
variable {w : World} {A : Around} {E : Value → Shared → Prop} {s : Shared} {h₀ : Heap} {L : Addr} {m : Str → Option Value}
theorem b3_method {pl : Sem Bool} {Q : Value × List Value → Shared → Prop} (F : Fr h₀ L s.heap m) (X : (K w.params).In h₀) (h : Q (.builtin "dict.get", [.ref 15]) s) : wpAny (model pw w) A (getMethod (.ref 15) "get" pl) Q E s :=
  KTD.getMethod_keyed (keyed15 X) F.keep h
theorem b3_get {k : Int} {tk : Tok} {Q : Value → Shared → Prop} (F : Fr h₀ L s.heap m) (X : (K w.params).In h₀) (h1 : ∀ y t, KTD.datumAt k DD = some (.str y) → Q (.str y t) { s with toks := s.toks + 1 }) (h2 : KTD.datumAt k DD = none → Q .none { s with toks := s.toks + 1 }) :
    wpAny (model pw w) A (call (.builtin "dict.get") [.ref 15, .int k tk]) Q E s :=
  KTD.get1_keyed (keyed15 X) F.keep (each_of h1 h2)
theorem ord_one {c : Nat} {t : Tok} {Q : Value → Shared → Prop} (h : Q (.int (c : Int) s.toks) { s with toks := s.toks + 1 }) : wpAny (model pw w) A (call (.builtin "ord") [.str ⟨#[c]⟩ t]) Q E s :=
  ord_of_one rfl h
theorem low_one {c : Nat} {t : Tok} {Q : Value → Shared → Prop} (h : Q (.str (Txt.lower ⟨#[c]⟩) s.toks) { s with toks := s.toks + 1 }) : wpAny (model pw w) A (call (.builtin "str.lower") [.str ⟨#[c]⟩ t]) Q E s :=
  SCL.lower (by show (1 : Nat) ≤ 5592405; omega) fun _ => h
end
theorem fold_some {c : Nat} {y : Str} (h : KTD.datumAt (c : Int) DD = some (.str y)) : fold c = y := by unfold fold; rw [h]
theorem fold_none {c : Nat} (h : KTD.datumAt (c : Int) DD = none) : fold c = Txt.lower ⟨#[c]⟩ := by unfold fold; rw [h]
end Mine
open Mine
local macro_rules | `(tactic| walk_at "getMethod ref") => `(tactic| (k_here; (with_reducible show wpAny _ _ (getMethod (Value.ref 15) _ _) _ _ _); refine' b3_method ?k1 ?k2 ?_; (case k1 => k_asm); (case k2 => k_asm); k_whole; walk_say "B3 METHOD"))
local macro_rules | `(tactic| walk_at "call builtin:dict.get") => `(tactic| (k_here; (with_reducible show wpAny _ _ (call (Value.builtin "dict.get") [Value.ref 15, Value.int _ _]) _ _ _); refine' b3_get ?k1 ?k2 ?_ ?_; (case k1 => k_asm); (case k2 => k_asm); k_whole; all_goals (intros; try dsimp only)))
local macro_rules | `(tactic| walk_at "call builtin:ord") => `(tactic| (k_here; (with_reducible show wpAny _ _ (call (Value.builtin "ord") [Value.str _ _]) _ _ _); refine' ord_one ?_; k_whole; (try dsimp only)))
local macro_rules | `(tactic| walk_at "call builtin:str.lower") => `(tactic| (k_here; (with_reducible show wpAny _ _ (call (Value.builtin "str.lower") [Value.str _ _]) _ _ _); refine' low_one ?_; k_whole; (try dsimp only)))
namespace Mine
/-- a contract of a def: what its call hands on -/
def CT (w : World) (f : Addr) (vs : List Value) (R : Heap → Addr → (Str → Option Value) → List (Addr × Obj) → Shared → (Value → Shared → Prop) → Prop) (d : Nat := 3) : Prop :=
  ∀ (loose : List Str) (mean : ExcName → Option Value) (mg mb : Str → Option Value) (dp un : Nat) (gd : Option (List Code)) (cn : Str) (cs : Scope) (a : Addr) (ccd : Value) (cl : List (Str × Addr)) (outer : List Env) (A₀ : Around) (base h₀ : Heap) (L : Addr)
    (m : Str → Option Value) (news : List (Addr × Obj)) (s : Shared) (Q E : Value → Shared → Prop),
    Below A₀ base outer h₀ → Fr h₀ L s.heap m → (K w.params).In h₀ → News h₀ L s.heap news → Top vq loose mean mg mb h₀ → cs.kind = .function → dp + d < recursionLimit → un + 40 * d < cLine →
    R h₀ L m news s Q → wpAny (model pw w) (ktrTop dp un gd cn cs L a ccd cl outer) (call (.ref f) vs) Q E s
abbrev RetL (r : List Int) : Heap → Addr → (Str → Option Value) → List (Addr × Obj) → Shared → (Value → Shared → Prop) → Prop := fun h₀ L m news s Q =>
  ∀ (a' : Addr) (vs : List Value) (h' : Heap) (tk' : Nat), Fr h₀ L h' m → News h₀ L h' ((a', listOf vs.toArray 0) :: news) → (∀ p ∈ news, p.1 < a') → IntsAre vs r → Q (.ref a') { s with heap := h', toks := tk' }
abbrev RetS (x : Str) : Heap → Addr → (Str → Option Value) → List (Addr × Obj) → Shared → (Value → Shared → Prop) → Prop := fun h₀ L m news s Q =>
  ∀ (t : Tok) (h' : Heap) (tk' : Nat), Fr h₀ L h' m → News h₀ L h' news → Q (.str x t) { s with heap := h', toks := tk' }
theorem CT.use {w : World} {f : Addr} {vs : List Value} {R : Heap → Addr → (Str → Option Value) → List (Addr × Obj) → Shared → (Value → Shared → Prop) → Prop} {d : Nat} (C : CT w f vs R d)
    {loose : List Str} {mean : ExcName → Option Value} {mg mb : Str → Option Value} {dp un : Nat} {gd : Option (List Code)} {cn : Str} {cs : Scope} {a : Addr} {ccd : Value} {cl : List (Str × Addr)} {outer : List Env} {A₀ : Around} {base h₀ : Heap} {L : Addr}
    {m : Str → Option Value} {news : List (Addr × Obj)} {s : Shared} {Q E : Value → Shared → Prop}
    (B : Below A₀ base outer h₀) (F : Fr h₀ L s.heap m) (X : (K w.params).In h₀) (N : News h₀ L s.heap news) (T : Top vq loose mean mg mb h₀) (hk : cs.kind = .function) (hd : dp + d < recursionLimit) (hu : un + 40 * d < cLine)
    (hR : R h₀ L m news s Q) : wpAny (model pw w) (ktrTop dp un gd cn cs L a ccd cl outer) (call (.ref f) vs) Q E s := C _ _ _ _ _ _ _ _ _ _ _ _ _ _ _ _ _ _ _ _ _ _ B F X N T hk hd hu hR

def written (c : Int) : List Int :=
  if c < 128 then [c]
  else if c < 2048 then [192 + c.fdiv 64, 128 + c.fmod 64]
  else if c < 65536 then [224 + c.fdiv 4096, 128 + (c.fdiv 64).fmod 64, 128 + c.fmod 64]
  else [240 + c.fdiv 262144, 128 + (c.fdiv 4096).fmod 64, 128 + (c.fdiv 64).fmod 64, 128 + c.fmod 64]
set_option maxHeartbeats 4000000 in
theorem b3_ct (w : World) (c : Nat) (tk : Tok) : CT w 60 [.str ⟨#[c]⟩ tk] (RetS (fold c)) := by
  have hrw : PySem.Challenge.rw_dw5011_03 = PySem.Challenge.rw_dw5011_03 ∧ K = K := ⟨rfl, rfl⟩
  revert hrw
  k_fill
  intro hrw loose mean mg mb dp un gd cn cs a ccd cl outer A₀ base h₀ L m news s Q E B F X N T hk hd hu hret
  refine wpAny_call ?_
  cell_enter
  dsimp only [FB2, rhsOf]
  k_steps
  · have e := fold_some (by assumption)
    rw [← e]; exact hret _ _ _ (by assumption) (by assumption)
  · have e := fold_none (by assumption)
    rw [← e]; exact hret _ _ _ (by assumption) (by assumption)
set_option maxHeartbeats 4000000 in
theorem written_ct (w : World) (code : Int) (tk : Tok) (hc0 : 0 ≤ code) (hc1 : code < 1114112) : CT w 88 [.int code tk] (RetL (written code)) := by
  have hrw : PySem.Challenge.rw_dw5011_03 = PySem.Challenge.rw_dw5011_03 ∧ K = K := ⟨rfl, rfl⟩
  revert hrw
  k_fill
  intro hrw loose mean mg mb dp un gd cn cs a ccd cl outer A₀ base h₀ L m news s Q E B F X N T hk hd hu hret
  refine wpAny_call ?_
  cell_enter
  dsimp only [FB6, rhsOf]
  k_steps
  all_goals (refine hret _ _ _ _ (by assumption) (by assumption) (by assumption) ?_; unfold written; (repeat first | rw [if_pos (by assumption)] | rw [if_neg (by assumption)]); (repeat refine IntsAre.cons _ _ ?_); exact IntsAre.nil)
end Mine

end
section
open PySem PySem.W PyProof.Rows PySem.Calls
namespace Mine
def two (a b : Int) : List Int :=
  if a = 194 ∧ b = 181 then [206, 188]
  else if a = 195 ∧ b = 159 then [115, 115]
  else if a = 195 ∧ b < 159 ∧ b ≠ 151 then [195, b + 32]
  else if a = 206 ∧ 145 ≤ b ∧ b < 160 then [206, b + 32]
  else if a = 206 ∧ 160 ≤ b ∧ b ≤ 169 then [207, b - 32]
  else if a = 207 ∧ b = 130 then [207, 131]
  else if a = 208 ∧ b < 144 then [209, b + 16]
  else if a = 208 ∧ b < 160 then [208, b + 32]
  else if a = 208 ∧ b < 176 then [209, b - 32]
  else if a = 212 then [213, b - 16]
  else if a = 213 ∧ b < 144 then [213, b + 48]
  else if a = 213 ∧ b < 160 then [214, b - 16]
  else if a = 214 ∧ b = 135 then [213, 165, 214, 130]
  else [a, b]
theorem ints_to {vs : List Value} {ns ms : List Int} (h : IntsAre vs ns) (e : ms = ns) : IntsAre vs ms := e ▸ h
set_option maxHeartbeats 4000000 in
theorem two_194 (w : World) (b : Int) (t u : Tok) : CT w 95 [.int 194 t, .int b u] (RetL (two 194 b)) := by
  have hrw : PySem.Challenge.rw_dw5011_03 = PySem.Challenge.rw_dw5011_03 ∧ K = K := ⟨rfl, rfl⟩
  revert hrw
  k_fill
  intro hrw loose mean mg mb dp un gd cn cs a ccd cl outer A₀ base h₀ L m news s Q E B F X N T hk hd hu hret
  refine wpAny_call ?_
  cell_enter
  dsimp only [FB7, rhsOf]
  k_steps
  all_goals (refine hret _ _ _ _ (by assumption) (by assumption) (by assumption) (ints_to (by (repeat apply IntsAre.cons); exact IntsAre.nil) ?_); unfold two)
  all_goals (repeat first | with_reducible exact rfl | (refine (if_pos (by omega)).trans ?_) | (refine (if_neg (by omega)).trans ?_))
set_option maxHeartbeats 4000000 in
theorem two_195 (w : World) (b : Int) (t u : Tok) : CT w 95 [.int 195 t, .int b u] (RetL (two 195 b)) := by
  have hrw : PySem.Challenge.rw_dw5011_03 = PySem.Challenge.rw_dw5011_03 ∧ K = K := ⟨rfl, rfl⟩
  revert hrw
  k_fill
  intro hrw loose mean mg mb dp un gd cn cs a ccd cl outer A₀ base h₀ L m news s Q E B F X N T hk hd hu hret
  refine wpAny_call ?_
  cell_enter
  dsimp only [FB7, rhsOf]
  k_steps
  all_goals (refine hret _ _ _ _ (by assumption) (by assumption) (by assumption) (ints_to (by (repeat apply IntsAre.cons); exact IntsAre.nil) ?_); unfold two)
  all_goals (repeat first | with_reducible exact rfl | (refine (if_pos (by omega)).trans ?_) | (refine (if_neg (by omega)).trans ?_))
set_option maxHeartbeats 4000000 in
theorem two_206 (w : World) (b : Int) (t u : Tok) : CT w 95 [.int 206 t, .int b u] (RetL (two 206 b)) := by
  have hrw : PySem.Challenge.rw_dw5011_03 = PySem.Challenge.rw_dw5011_03 ∧ K = K := ⟨rfl, rfl⟩
  revert hrw
  k_fill
  intro hrw loose mean mg mb dp un gd cn cs a ccd cl outer A₀ base h₀ L m news s Q E B F X N T hk hd hu hret
  refine wpAny_call ?_
  cell_enter
  dsimp only [FB7, rhsOf]
  k_steps
  all_goals (refine hret _ _ _ _ (by assumption) (by assumption) (by assumption) (ints_to (by (repeat apply IntsAre.cons); exact IntsAre.nil) ?_); unfold two)
  all_goals (repeat first | with_reducible exact rfl | (refine (if_pos (by omega)).trans ?_) | (refine (if_neg (by omega)).trans ?_))
set_option maxHeartbeats 4000000 in
theorem two_207 (w : World) (b : Int) (t u : Tok) : CT w 95 [.int 207 t, .int b u] (RetL (two 207 b)) := by
  have hrw : PySem.Challenge.rw_dw5011_03 = PySem.Challenge.rw_dw5011_03 ∧ K = K := ⟨rfl, rfl⟩
  revert hrw
  k_fill
  intro hrw loose mean mg mb dp un gd cn cs a ccd cl outer A₀ base h₀ L m news s Q E B F X N T hk hd hu hret
  refine wpAny_call ?_
  cell_enter
  dsimp only [FB7, rhsOf]
  k_steps
  all_goals (refine hret _ _ _ _ (by assumption) (by assumption) (by assumption) (ints_to (by (repeat apply IntsAre.cons); exact IntsAre.nil) ?_); unfold two)
  all_goals (repeat first | with_reducible exact rfl | (refine (if_pos (by omega)).trans ?_) | (refine (if_neg (by omega)).trans ?_))
set_option maxHeartbeats 4000000 in
theorem two_208 (w : World) (b : Int) (t u : Tok) : CT w 95 [.int 208 t, .int b u] (RetL (two 208 b)) := by
  have hrw : PySem.Challenge.rw_dw5011_03 = PySem.Challenge.rw_dw5011_03 ∧ K = K := ⟨rfl, rfl⟩
  revert hrw
  k_fill
  intro hrw loose mean mg mb dp un gd cn cs a ccd cl outer A₀ base h₀ L m news s Q E B F X N T hk hd hu hret
  refine wpAny_call ?_
  cell_enter
  dsimp only [FB7, rhsOf]
  k_steps
  all_goals (refine hret _ _ _ _ (by assumption) (by assumption) (by assumption) (ints_to (by (repeat apply IntsAre.cons); exact IntsAre.nil) ?_); unfold two)
  all_goals (repeat first | with_reducible exact rfl | (refine (if_pos (by omega)).trans ?_) | (refine (if_neg (by omega)).trans ?_))
set_option maxHeartbeats 4000000 in
theorem two_209 (w : World) (b : Int) (t u : Tok) : CT w 95 [.int 209 t, .int b u] (RetL (two 209 b)) := by
  have hrw : PySem.Challenge.rw_dw5011_03 = PySem.Challenge.rw_dw5011_03 ∧ K = K := ⟨rfl, rfl⟩
  revert hrw
  k_fill
  intro hrw loose mean mg mb dp un gd cn cs a ccd cl outer A₀ base h₀ L m news s Q E B F X N T hk hd hu hret
  refine wpAny_call ?_
  cell_enter
  dsimp only [FB7, rhsOf]
  k_steps
  all_goals (refine hret _ _ _ _ (by assumption) (by assumption) (by assumption) (ints_to (by (repeat apply IntsAre.cons); exact IntsAre.nil) ?_); unfold two)
  all_goals (repeat first | with_reducible exact rfl | (refine (if_pos (by omega)).trans ?_) | (refine (if_neg (by omega)).trans ?_))
set_option maxHeartbeats 4000000 in
theorem two_212 (w : World) (b : Int) (t u : Tok) : CT w 95 [.int 212 t, .int b u] (RetL (two 212 b)) := by
  have hrw : PySem.Challenge.rw_dw5011_03 = PySem.Challenge.rw_dw5011_03 ∧ K = K := ⟨rfl, rfl⟩
  revert hrw
  k_fill
  intro hrw loose mean mg mb dp un gd cn cs a ccd cl outer A₀ base h₀ L m news s Q E B F X N T hk hd hu hret
  refine wpAny_call ?_
  cell_enter
  dsimp only [FB7, rhsOf]
  k_steps
  all_goals (refine hret _ _ _ _ (by assumption) (by assumption) (by assumption) (ints_to (by (repeat apply IntsAre.cons); exact IntsAre.nil) ?_); unfold two)
  all_goals (repeat first | with_reducible exact rfl | (refine (if_pos (by omega)).trans ?_) | (refine (if_neg (by omega)).trans ?_))
set_option maxHeartbeats 4000000 in
theorem two_213 (w : World) (b : Int) (t u : Tok) : CT w 95 [.int 213 t, .int b u] (RetL (two 213 b)) := by
  have hrw : PySem.Challenge.rw_dw5011_03 = PySem.Challenge.rw_dw5011_03 ∧ K = K := ⟨rfl, rfl⟩
  revert hrw
  k_fill
  intro hrw loose mean mg mb dp un gd cn cs a ccd cl outer A₀ base h₀ L m news s Q E B F X N T hk hd hu hret
  refine wpAny_call ?_
  cell_enter
  dsimp only [FB7, rhsOf]
  k_steps
  all_goals (refine hret _ _ _ _ (by assumption) (by assumption) (by assumption) (ints_to (by (repeat apply IntsAre.cons); exact IntsAre.nil) ?_); unfold two)
  all_goals (repeat first | with_reducible exact rfl | (refine (if_pos (by omega)).trans ?_) | (refine (if_neg (by omega)).trans ?_))
set_option maxHeartbeats 4000000 in
theorem two_214 (w : World) (b : Int) (t u : Tok) : CT w 95 [.int 214 t, .int b u] (RetL (two 214 b)) := by
  have hrw : PySem.Challenge.rw_dw5011_03 = PySem.Challenge.rw_dw5011_03 ∧ K = K := ⟨rfl, rfl⟩
  revert hrw
  k_fill
  intro hrw loose mean mg mb dp un gd cn cs a ccd cl outer A₀ base h₀ L m news s Q E B F X N T hk hd hu hret
  refine wpAny_call ?_
  cell_enter
  dsimp only [FB7, rhsOf]
  k_steps
  all_goals (refine hret _ _ _ _ (by assumption) (by assumption) (by assumption) (ints_to (by (repeat apply IntsAre.cons); exact IntsAre.nil) ?_); unfold two)
  all_goals (repeat first | with_reducible exact rfl | (refine (if_pos (by omega)).trans ?_) | (refine (if_neg (by omega)).trans ?_))
end Mine

end
section
open PySem PySem.W PyProof.Rows PySem.Calls
namespace Mine
def Stop (P : Prop) : Prop := P
theorem Stop.out {P : Prop} (h : Stop P) : P := h
def CPost {α : Type} (I : List α → Shared → Prop) (r : List α) (Q : Flow → Shared → Prop) (f : Flow) (s : Shared) : Prop :=
  match f with
  | .next => I r s
  | .cont => I r s
  | .brk => Q .next s
  | .ret v => Q (.ret v) s
theorem whl_codes {α : Type} {prog : Program} {w : World} {A : Around} {E : Value → Shared → Prop} {env : Env} {test : PySem.Expr} {body orelse : List Stmt} {Q : Flow → Shared → Prop} (hE : PassesOwn (model prog w) A env E) (I : List α → Shared → Prop)
    (step : ∀ c r s, I (c :: r) s → wpAny (model prog w) A (isTrue test env (eval test env)) (fun b s₂ => WhlIf b (wpAny (model prog w) A (execs body env) (CPost I r Q) E s₂) (wpAny (model prog w) A (execs orelse env) Q E s₂)) E s)
    (fin : ∀ s, I [] s → wpAny (model prog w) A (isTrue test env (eval test env)) (fun b s₂ => WhlIf b (wpAny (model prog w) A (execs body env) (fun _ _ => False) E s₂) (wpAny (model prog w) A (execs orelse env) Q E s₂)) E s) :
    ∀ l s, I l s → WhlRest prog w A E env test body orelse Q 0 s
  | [], s, h => whl_turn (k := 0) hE (wpAny_mono (fin s h) (fun b s₂ hb => by
      cases b with
      | true => exact WhlIf.yes rfl (wpAny_mono (show wpAny (model prog w) A (execs body env) (fun _ _ => False) E s₂ by unfold WhlIf at hb; rw [if_pos rfl] at hb; exact hb) (fun _ _ e => e.elim) fun _ _ e => e)
      | false => exact WhlIf.no rfl (show wpAny (model prog w) A (execs orelse env) Q E s₂ by unfold WhlIf at hb; rw [if_neg Bool.false_ne_true] at hb; exact hb)) fun _ _ e => e)
  | c :: r, s, h => whl_turn (k := 0) hE (wpAny_mono (step c r s h) (fun b s₂ hb => by
      cases b with
      | true => exact WhlIf.yes rfl (wpAny_mono (show wpAny (model prog w) A (execs body env) (CPost I r Q) E s₂ by unfold WhlIf at hb; rw [if_pos rfl] at hb; exact hb) (fun f s₃ p => by
          cases f with
          | next => exact whl_codes hE I step fin r s₃ p
          | cont => exact whl_codes hE I step fin r s₃ p
          | brk => exact p
          | ret v => exact p) fun _ _ e => e)
      | false => exact WhlIf.no rfl (show wpAny (model prog w) A (execs orelse env) Q E s₂ by unfold WhlIf at hb; rw [if_neg Bool.false_ne_true] at hb; exact hb)) fun _ _ e => e)
def At (ns : List Int) (k x : Int) : Prop := 0 ≤ k ∧ k < 1000000 ∧ ns[k.toNat]? = some x
theorem item_at {prog : Program} {w : World} {A : Around} {E : Value → Shared → Prop} {s : Shared} {h₀ : Heap} {L o : Addr} {news : List (Addr × Obj)} {vs : List Value} {ns : List Int} {k x : Int} {u : Tok} {value slice : Expr} {Q : Value → Shared → Prop}
    (N : News h₀ L s.heap news) (hm : (o, W.listOf vs.toArray 0) ∈ news) (hi : IntsAre vs ns) (hat : At ns k x) (h : ∀ t, Q (.int x t) s)
    (hs : subscripted slice false (.ref o) (.int k u) = operate [.ref o, .int k u] (getItem (.ref o) (.int k u)) := by with_unfolding_all rfl) :
    wpAny (model prog w) A (subscriptTail value slice (.ref o) (.int k u)) Q E s := by
  obtain ⟨t, hx⟩ := hi.get k.toNat _ hat.2.2
  exact item_listR ⟨_, (N _ hm).1, rfl, _, rfl⟩ hat.1 (by have := hat.2.1; omega) (by simpa using hx) (h t) hs
def lookA (k : Nat) : List (Int × Str) → Option Str
  | [] => none
  | (j, y) :: r => bif Nat.beq k j.toNat then some y else bif Nat.ble k j.toNat then none else lookA k r
def foldA (c : Nat) : Str := match lookA c kv with
  | some y => y
  | none => Txt.lower ⟨#[c]⟩
def rowsL : List (Int × Int) := [(0, 128), (160, 96), (913, 17), (931, 7), (945, 25), (1024, 96), (1329, 38), (1377, 39), (8486, 1), (8490, 2), (64256, 7), (119808, 26)]
def TwoAb (a : Int) : Bool := [194,195,206,207,208,209,212,213,214].contains a
def turnB (c : Int) (f : List Nat) : Bool :=
  f.all (fun d => Nat.blt d 1114112) &&
  (let o := f.flatMap fun (d : Nat) => written (d : Int)
  match written c with
  | [a] => decide (0 ≤ a) && decide (a < 128) && o == (if 65 ≤ a ∧ a ≤ 90 then [a + 32] else [a])
  | [a, b] => TwoAb a && o == two a b
  | [a, _, y] => if a == 226 then (if y == 166 then o == [207, 137] else if y == 170 then o == [107] else y == 171 && o == [195, 165])
     else a == 239 && (if y == 128 then o == [102,102] else if y == 129 then o == [102,105] else if y == 130 then o == [102,108] else if y == 131 then o == [102,102,105] else if y == 132 then o == [102,102,108] else (y == 133 || y == 134) && o == [115,116])
  | [a, _, _, y] => a == 240 && o == [y - 128 + 97]
  | _ => false)
def turnAll (a n : Nat) : Bool := (List.range n).all fun i => turnB ((a + i : Nat) : Int) (foldA (a + i)).cps.toList
theorem r1 : turnAll 0 128 = true := by kernel_rfl
theorem r2 : turnAll 160 96 = true := by kernel_rfl
theorem r3 : turnAll 913 17 = true := by kernel_rfl
theorem r4 : turnAll 931 7 = true := by kernel_rfl
theorem r5 : turnAll 945 25 = true := by kernel_rfl
theorem r6 : turnAll 1024 96 = true := by kernel_rfl
theorem r7 : turnAll 1329 38 = true := by kernel_rfl
theorem r8 : turnAll 1377 39 = true := by kernel_rfl
theorem r9 : turnAll 8486 1 = true := by kernel_rfl
theorem r10 : turnAll 8490 2 = true := by kernel_rfl
theorem r11 : turnAll 64256 7 = true := by kernel_rfl
theorem r12 : turnAll 119808 26 = true := by kernel_rfl

theorem look_none {k : Int} : ∀ {D : List (Int × Str)}, (∀ q ∈ D, q.1 ≠ k) → KTD.datumAt k (D.map fun p => (p.1, PyData.str p.2)) = none
  | [], _ => rfl
  | (j, y) :: r, h => by
    simp only [List.map_cons, KTD.datumAt]
    rw [if_neg (by have := h _ (List.mem_cons_self ..); simp only at this; simpa using fun e => this e.symm)]
    exact look_none fun q hq => h q (List.mem_cons_of_mem _ hq)
theorem look_asc {k : Nat} : ∀ {lo : Int} {D : List (Int × Str)}, -1 ≤ lo → asc lo D = true → KTD.datumAt (k : Int) (D.map fun p => (p.1, PyData.str p.2)) = (lookA k D).map PyData.str
  | _, [], _, _ => rfl
  | lo, (j, y) :: r, hlo, h => by
    have h0 : lo < j := (asc_all h _ (List.mem_cons_self ..)).1
    have h' : asc j r = true := by simp only [asc, Bool.and_eq_true] at h; exact h.2
    simp only [List.map_cons, KTD.datumAt, lookA]
    by_cases e : (k : Int) = j
    · rw [if_pos (decide_eq_true e), show Nat.beq k j.toNat = true by have e' : k = j.toNat := (by omega); rw [e']; exact Nat.beq_refl _]; rfl
    · rw [if_neg (by simp [e]), show Nat.beq k j.toNat = false from by
        cases hb : Nat.beq k j.toNat
        · rfl
        · exact absurd (Nat.eq_of_beq_eq_true hb) (by omega)]
      cases hb : Nat.ble k j.toNat
      · exact look_asc (by omega) h'
      · have hle := Nat.le_of_ble_eq_true hb
        exact look_none fun q hq => by have := (asc_all h' q hq).1; omega
theorem fold_eq (c : Nat) : fold c = foldA c := by
  unfold fold foldA DD
  rw [look_asc (by omega) kv_asc]
  cases lookA c kv <;> rfl
def foldO (c : Int) : List Int := (fold c.toNat).cps.toList.flatMap fun (d : Nat) => written (d : Int)
theorem of_all {a n : Nat} (h : turnAll a n = true) {c : Int} (h0 : (a : Int) ≤ c) (h1 : c < a + n) : turnB c (fold c.toNat).cps.toList = true := by
  have := List.all_eq_true.mp h (c.toNat - a) (List.mem_range.mpr (by omega))
  rw [show a + (c.toNat - a) = c.toNat by omega, show ((c.toNat : Nat) : Int) = c by omega, ← fold_eq] at this
  exact this
def RowCode (c : Int) : Prop := ∃ p ∈ rowsL, p.1 ≤ c ∧ c < p.1 + p.2
theorem row_turn {c : Int} (h : RowCode c) : turnB c (fold c.toNat).cps.toList = true := by
  obtain ⟨p, hp, h0, h1⟩ := h
  simp only [rowsL, List.mem_cons, List.not_mem_nil, or_false] at hp
  rcases hp with rfl | rfl | rfl | rfl | rfl | rfl | rfl | rfl | rfl | rfl | rfl | rfl
  · exact of_all r1 h0 h1
  · exact of_all r2 h0 h1
  · exact of_all r3 h0 h1
  · exact of_all r4 h0 h1
  · exact of_all r5 h0 h1
  · exact of_all r6 h0 h1
  · exact of_all r7 h0 h1
  · exact of_all r8 h0 h1
  · exact of_all r9 h0 h1
  · exact of_all r10 h0 h1
  · exact of_all r11 h0 h1
  · exact of_all r12 h0 h1
/-- what a turn of the walk over the octets meets -/
inductive Turn (c : Int) : Prop
  | one (a : Int) : written c = [a] → 0 ≤ a → a < 128 → foldO c = (if 65 ≤ a ∧ a ≤ 90 then [a + 32] else [a]) → Turn c
  | two (a b : Int) : written c = [a, b] → TwoAb a = true → foldO c = two a b → Turn c
  | p166 (b : Int) : written c = [226, b, 166] → foldO c = [207, 137] → Turn c
  | p170 (b : Int) : written c = [226, b, 170] → foldO c = [107] → Turn c
  | p171 (b : Int) : written c = [226, b, 171] → foldO c = [195, 165] → Turn c
  | q0 (b : Int) : written c = [239, b, 128] → foldO c = [102, 102] → Turn c
  | q1 (b : Int) : written c = [239, b, 129] → foldO c = [102, 105] → Turn c
  | q2 (b : Int) : written c = [239, b, 130] → foldO c = [102, 108] → Turn c
  | q3 (b : Int) : written c = [239, b, 131] → foldO c = [102, 102, 105] → Turn c
  | q4 (b : Int) : written c = [239, b, 132] → foldO c = [102, 102, 108] → Turn c
  | q5 (b : Int) : written c = [239, b, 133] → foldO c = [115, 116] → Turn c
  | q6 (b : Int) : written c = [239, b, 134] → foldO c = [115, 116] → Turn c
  | four (b d y : Int) : written c = [240, b, d, y] → foldO c = [y - 128 + 97] → Turn c
theorem row_case {c : Int} (h : RowCode c) : Turn c := by
  have := row_turn h
  unfold turnB at this
  simp only [Bool.and_eq_true] at this
  have h2 := this.2
  rw [show ((fold c.toNat).cps.toList.flatMap fun (d : Nat) => written (d : Int)) = foldO c from rfl] at h2
  split at h2
  · rename_i a e
    simp only [Bool.and_eq_true, decide_eq_true_eq, beq_iff_eq] at h2
    exact .one a e h2.1.1 h2.1.2 h2.2
  · rename_i a b e
    simp only [Bool.and_eq_true, beq_iff_eq] at h2
    exact .two a b e h2.1 h2.2
  · rename_i a b y e
    split at h2
    · rename_i ea
      rw [eq_of_beq ea] at e
      split at h2
      · rename_i ey; rw [eq_of_beq ey] at e; exact .p166 b e (eq_of_beq h2)
      · split at h2
        · rename_i ey; rw [eq_of_beq ey] at e; exact .p170 b e (eq_of_beq h2)
        · simp only [Bool.and_eq_true] at h2
          rw [eq_of_beq h2.1] at e; exact .p171 b e (eq_of_beq h2.2)
    · simp only [Bool.and_eq_true] at h2
      rw [eq_of_beq h2.1] at e
      have h3 := h2.2
      split at h3
      · rename_i ey; rw [eq_of_beq ey] at e; exact .q0 b e (eq_of_beq h3)
      · split at h3
        · rename_i ey; rw [eq_of_beq ey] at e; exact .q1 b e (eq_of_beq h3)
        · split at h3
          · rename_i ey; rw [eq_of_beq ey] at e; exact .q2 b e (eq_of_beq h3)
          · split at h3
            · rename_i ey; rw [eq_of_beq ey] at e; exact .q3 b e (eq_of_beq h3)
            · split at h3
              · rename_i ey; rw [eq_of_beq ey] at e; exact .q4 b e (eq_of_beq h3)
              · simp only [Bool.and_eq_true, Bool.or_eq_true] at h3
                rcases h3.1 with ey | ey
                · rw [eq_of_beq ey] at e; exact .q5 b e (eq_of_beq h3.2)
                · rw [eq_of_beq ey] at e; exact .q6 b e (eq_of_beq h3.2)
  · rename_i a b d y e
    simp only [Bool.and_eq_true] at h2
    rw [eq_of_beq h2.1] at e
    exact .four b d y e (eq_of_beq h2.2)
  · cases h2
theorem row_sign {c : Int} (h : RowCode c) : ∀ d ∈ (fold c.toNat).cps.toList, d < 1114112 := by
  have := row_turn h
  unfold turnB at this
  simp only [Bool.and_eq_true, List.all_eq_true] at this
  intro d hd
  exact Nat.lt_of_lt_of_le (Nat.lt_succ_self d) (Nat.le_of_ble_eq_true (this.1 d hd))
theorem row_range {c : Int} (h : RowCode c) : 0 ≤ c ∧ c < 1114112 := by
  obtain ⟨p, hp, h0, h1⟩ := h
  simp only [rowsL, List.mem_cons, List.not_mem_nil, or_false] at hp
  rcases hp with rfl | rfl | rfl | rfl | rfl | rfl | rfl | rfl | rfl | rfl | rfl | rfl <;> (simp only at h0 h1; omega)
theorem two_ct (w : World) (a b : Int) (t u : Tok) (h : TwoAb a = true) : CT w 95 [.int a t, .int b u] (RetL (two a b)) := by
  have h' := List.contains_iff_mem.mp h
  simp only [List.mem_cons, List.not_mem_nil, or_false] at h'
  rcases h' with rfl | rfl | rfl | rfl | rfl | rfl | rfl | rfl | rfl
  · exact two_194 w b t u
  · exact two_195 w b t u
  · exact two_206 w b t u
  · exact two_207 w b t u
  · exact two_208 w b t u
  · exact two_209 w b t u
  · exact two_212 w b t u
  · exact two_213 w b t u
  · exact two_214 w b t u
theorem len_ite {c : Prop} [Decidable c] {l r : List Int} (h1 : l.length ≤ 4) (h2 : r.length ≤ 4) : (if c then l else r).length ≤ 4 := by split <;> assumption
theorem two_len (a b : Int) : (two a b).length ≤ 4 := by
  unfold two
  repeat' refine len_ite ?_ ?_
  all_goals exact Nat.le_of_ble_eq_true rfl
theorem two_ab {a : Int} (h : TwoAb a = true) : 194 ≤ a ∧ a < 224 := by
  have h' := List.contains_iff_mem.mp h
  simp only [List.mem_cons, List.not_mem_nil, or_false] at h'
  omega
theorem at_zero {ns r : List Int} {k x : Int} (h0 : 0 ≤ k) (h1 : k < 1000) (h : ns.drop k.toNat = x :: r) : At ns k x ∧ ns.drop (k + 1).toNat = r := by
  have e : (k + 1).toNat = k.toNat + 1 := by omega
  refine ⟨⟨h0, by omega, ?_⟩, ?_⟩
  · have := congrArg (·[0]?) h
    simpa using this
  · rw [e, ← List.drop_drop, h]; rfl
theorem canon3 {h₀ : Heap} {L : Addr} {h : Heap} {m' : Str → Option Value} {x y z : Str} {vx vy vz : Value} (F : Fr h₀ L h m') (hx : m' x = some vx) (hy : m' y = some vy) (hz : m' z = some vz) :
    Fr h₀ L h (fun n => if n = x then some vx else if n = y then some vy else if n = z then some vz else m' n) := by
  have e : (fun n => if n = x then some vx else if n = y then some vy else if n = z then some vz else m' n) = m' := by
    funext n
    by_cases e1 : n = x
    · rw [if_pos e1, e1, hx]
    · rw [if_neg e1]
      by_cases e2 : n = y
      · rw [if_pos e2, e2, hy]
      · rw [if_neg e2]
        by_cases e3 : n = z
        · rw [if_pos e3, e3, hz]
        · rw [if_neg e3]
  rw [e]; exact F
end Mine

end
section
open PySem PySem.W PyProof.Rows PySem.Calls
theorem Mine.two_lenI {ws : List Value} {a b : Int} (h : IntsAre ws (Mine.two a b)) : (Mine.two a b).length ≤ 4 := Mine.two_len a b
theorem Mine.tup74 {P : Params} {h : Heap} (X : (Mine.K P).In h) : IsTup h 74 (List.toArray [(Value.int (102) 2175), (Value.int (102) 2176)]) := ⟨_, X 74 ⟨.type "tuple", none, .seq (List.toArray [(Value.int (102) 2175), (Value.int (102) 2176)]) 0, #[]⟩ (by kernel_rfl), rfl, 0, rfl⟩
theorem Mine.tup75 {P : Params} {h : Heap} (X : (Mine.K P).In h) : IsTup h 75 (List.toArray [(Value.int (102) 2177), (Value.int (105) 2178)]) := ⟨_, X 75 ⟨.type "tuple", none, .seq (List.toArray [(Value.int (102) 2177), (Value.int (105) 2178)]) 0, #[]⟩ (by kernel_rfl), rfl, 0, rfl⟩
theorem Mine.tup76 {P : Params} {h : Heap} (X : (Mine.K P).In h) : IsTup h 76 (List.toArray [(Value.int (102) 2179), (Value.int (108) 2180)]) := ⟨_, X 76 ⟨.type "tuple", none, .seq (List.toArray [(Value.int (102) 2179), (Value.int (108) 2180)]) 0, #[]⟩ (by kernel_rfl), rfl, 0, rfl⟩
theorem Mine.tup77 {P : Params} {h : Heap} (X : (Mine.K P).In h) : IsTup h 77 (List.toArray [(Value.int (102) 2181), (Value.int (102) 2182), (Value.int (105) 2183)]) := ⟨_, X 77 ⟨.type "tuple", none, .seq (List.toArray [(Value.int (102) 2181), (Value.int (102) 2182), (Value.int (105) 2183)]) 0, #[]⟩ (by kernel_rfl), rfl, 0, rfl⟩
theorem Mine.tup78 {P : Params} {h : Heap} (X : (Mine.K P).In h) : IsTup h 78 (List.toArray [(Value.int (102) 2184), (Value.int (102) 2185), (Value.int (108) 2186)]) := ⟨_, X 78 ⟨.type "tuple", none, .seq (List.toArray [(Value.int (102) 2184), (Value.int (102) 2185), (Value.int (108) 2186)]) 0, #[]⟩ (by kernel_rfl), rfl, 0, rfl⟩
theorem Mine.tup79 {P : Params} {h : Heap} (X : (Mine.K P).In h) : IsTup h 79 (List.toArray [(Value.int (115) 2187), (Value.int (116) 2188)]) := ⟨_, X 79 ⟨.type "tuple", none, .seq (List.toArray [(Value.int (115) 2187), (Value.int (116) 2188)]) 0, #[]⟩ (by kernel_rfl), rfl, 0, rfl⟩
theorem Mine.tup80 {P : Params} {h : Heap} (X : (Mine.K P).In h) : IsTup h 80 (List.toArray [(Value.int (115) 2189), (Value.int (116) 2190)]) := ⟨_, X 80 ⟨.type "tuple", none, .seq (List.toArray [(Value.int (115) 2189), (Value.int (116) 2190)]) 0, #[]⟩ (by kernel_rfl), rfl, 0, rfl⟩
theorem Mine.gen_toks {M : Model} {A : Around} {α : Type} {t : Sem α} {Q : α → Shared → Prop} {E : Value → Shared → Prop} {h : Heap} {g : Shared} {X : Nat} (H : ∀ tk, wpAny M A t Q E { g with heap := h, toks := tk }) : wpAny M A t Q E { g with heap := h, toks := X } := H X
open Mine
local macro_rules | `(tactic| walk_at "execs cons") => `(tactic| (k_here; (with_reducible show wpAny _ _ _ _ _ { heap := _, gens := _, drawn := _, toks := _ + 1, os := _ }); k_dflt (refine Mine.gen_toks ?_); intro tk))
local macro_rules | `(tactic| walk_at "execs nil") => `(tactic| (k_here; (with_reducible show wpAny _ _ _ _ _ { heap := _, gens := _, drawn := _, toks := _ + 1, os := _ }); k_dflt (refine Mine.gen_toks ?_); intro tk))
local macro_rules | `(tactic| walk_at "exec While Compare") => `(tactic| (k_here; refine whl_start 0 (Stop.out ?_); walk_say "STOP AT WHILE"))
local macro_rules | `(tactic| walk_at "subscriptTail") => `(tactic| (k_here; (with_reducible show wpAny _ _ (subscriptTail _ _ (Value.ref _) (Value.int _ _)) _ _ _); refine' Mine.item_at ?k1 ?k2 ?k3 ?k4 ?_; (case k1 => k_asm); (case k4 => k_asm); (case k3 => k_asm); (case k2 => k_dflt k_mem); k_whole; walk_say "ITEM"; intro tq))
local macro_rules | `(tactic| walk_at "subscriptTail Name Name ref int") => `(tactic| (k_here; (with_reducible show wpAny _ _ (subscriptTail _ _ (Value.ref _) (Value.int _ _)) _ _ _); refine' Mine.item_at ?k1 ?k2 ?k3 ?k4 ?_; (case k1 => k_asm); (case k4 => k_asm); (case k3 => k_asm); (case k2 => k_dflt k_mem); k_whole; walk_say "ITEM"; intro tq))
local macro_rules | `(tactic| walk_at "subscriptTail Name BinOp ref int") => `(tactic| (k_here; (with_reducible show wpAny _ _ (subscriptTail _ _ (Value.ref _) (Value.int _ _)) _ _ _); refine' Mine.item_at ?k1 ?k2 ?k3 ?k4 ?_; (case k1 => k_asm); (case k4 => k_asm); (case k3 => k_asm); (case k2 => k_dflt k_mem); k_whole; walk_say "ITEM"; intro tq))
local macro_rules | `(tactic| walk_at "call ref") => `(tactic| (k_here; (with_reducible show wpAny _ _ (call (Value.ref 95) [Value.int _ _, Value.int _ _]) _ _ _); k_dflt (refine' CT.use (two_ct _ _ _ _ _ ?k0) ?k1 ?k2 ?k3 ?k4 ?k5 ?kK ?kd ?ku ?kR); (case k0 => k_asm); (case k1 => k_asm); (case k2 => k_asm); (case k3 => k_asm); (case k4 => k_asm); (case k5 => k_asm); (case kK => k_dflt (first | exact rfl | assumption)); (case kd => k_dflt ktr_room); (case ku => k_dflt ktr_units); k_whole; walk_say "TWO"; intro a' ws' h' tk' F' N' l1 hI'; have hM' := two_lenI hI'; (try k_lt l1); (try k_sweep)))
local macro_rules | `(tactic| walk_at "WhlIf") => `(tactic| (k_here; first | refine WhlIf.yes (decide_eq_true (by omega)) ?_ | refine WhlIf.no (decide_eq_false (by omega)) ?_))
namespace Mine
theorem at_next {ns r : List Int} {k k' x : Int} (h0 : 0 ≤ k) (h1 : k < 1000) (h : ns.drop k.toNat = x :: r) (e : k' = k + 1) : At ns k x ∧ ns.drop k'.toNat = r := by rw [e]; exact at_zero h0 h1 h
theorem lt_mono {a b : Addr} {l : List (Addr × Obj)} (h : AllLt a l) (e : @LT.lt Nat _ a b) : AllLt b l := by
  induction l with
  | nil => trivial
  | cons p r ih => exact ⟨Nat.lt_trans h.1 e, ih h.2⟩
theorem allLt_to {d : Addr} : ∀ {l : List (Addr × Obj)}, AllLt d l → ∀ p ∈ l, p.1 < d
  | [], _, p, h => nomatch h
  | q :: r, x, p, h => by
    rcases List.mem_cons.mp h with rfl | h
    · exact x.1
    · exact allLt_to x.2 p h
theorem news_skip {g : Heap} {L : Addr} {h : Heap} {l : List (Addr × Obj)} {a b : Addr × Obj} (N : News g L h (a :: b :: l)) : News g L h (a :: l) := fun p hp => by
  rcases List.mem_cons.mp hp with rfl | hp
  · exact N _ (List.mem_cons_self ..)
  · exact N _ (List.mem_cons_of_mem _ (List.mem_cons_of_mem _ hp))
theorem news_two {g : Heap} {L : Addr} {h : Heap} {all l : List (Addr × Obj)} {a b : Addr × Obj} (N : News g L h all) (ha : a ∈ all) (hb : b ∈ all) (hl : ∀ p ∈ l, p ∈ all) : News g L h (a :: b :: l) := fun p hp => by
  rcases List.mem_cons.mp hp with rfl | hp
  · exact N _ ha
  · rcases List.mem_cons.mp hp with rfl | hp
    · exact N _ hb
    · exact N _ (hl _ hp)
set_option maxHeartbeats 3000000 in
theorem walk_ct (w : World) (o : Addr) (vs : List Value) (ns : List Int) (cs : List Int) (hI : IntsAre vs ns) (hns : ns = cs.flatMap written) (hlen : ns.length < 1000) (hcs : ∀ c ∈ cs, RowCode c) : CT w 102 [.ref o] (fun h₀ L m news s Q => (o, W.listOf vs.toArray 0) ∈ news ∧ RetL (cs.flatMap foldO) h₀ L m news s Q) 6 := by
  have hrw : PySem.Challenge.rw_dw5011_03 = PySem.Challenge.rw_dw5011_03 ∧ K = K := ⟨rfl, rfl⟩
  revert hrw
  k_fill
  intro hrw loose mean mg mb dp un gd cn cs' a ccd cl outer A₀ base h₀ L m news s Q E B F X N T hk hd hu ⟨hm, hret⟩
  have N := (show News h₀ L s.heap ((o, W.listOf vs.toArray 0) :: news) from fun p hp => by
    rcases List.mem_cons.mp hp with rfl | hp
    · exact N _ hm
    · exact N _ hp)
  refine wpAny_call ?_
  cell_enter
  dsimp only [FB8, rhsOf]
  k_steps
  rename_i g1 L1 h3 FG1 B1 X1 T1 l1 h2 al h1 tk0 h0 F1 N1 tk1
  refine whl_codes ?hE (I := fun rest s' => ∃ (h : Heap) (tk : Nat) (t : Addr) (us : List Value) (told : List Int) (k : Int) (kt : Tok) (u : Str → Option Value), s' = { s with heap := h, toks := tk } ∧ Fr g1 L1 h (fun y => if y = Str.ofString "k" then some (.int k kt) else if y = Str.ofString "told" then some (.ref t) else if y = Str.ofString "octets" then some (.ref o) else u y) ∧
    News g1 L1 h ((t, W.listOf (List.toArray us) 0) :: (o, W.listOf vs.toArray 0) :: news) ∧ @LT.lt Nat _ o t ∧ AllLt t news ∧ IntsAre us told ∧ 0 ≤ k ∧ ns.drop k.toNat = rest.flatMap written ∧ k + (rest.flatMap written).length = ns.length ∧ (told.length : Int) ≤ 4 * k ∧ told ++ rest.flatMap foldO = cs.flatMap foldO ∧ ∀ c ∈ rest, RowCode c) ?step ?fin cs _ ?ini
  case hE => passes_own
  case ini => exact ⟨_, _, _, _, [], 0, _, _, rfl, canon3 F1 (by with_unfolding_all rfl) (by with_unfolding_all rfl) (by with_unfolding_all rfl), N1, al.1, al.2, IntsAre.nil, Int.le_refl 0, hns, by rw [hns]; simp, by simp, by simp, hcs⟩
  case step =>
    clear F1 N1 al
    rintro c r _ ⟨h, tk, t, us, told, k, kt, u, rfl, F1, N1, lt, al, hU, hk0, hdr, hkn, htl, hfin, hrc⟩
    have hn : vs.toArray.size = ns.length := by simp [hI.length]
    rcases row_case (hrc c (List.mem_cons_self ..)) with ⟨a, e1, e2, e3, e4⟩ | ⟨a, b, e1, e2, e3⟩ | ⟨b, e1, e2⟩ | ⟨b, e1, e2⟩ | ⟨b, e1, e2⟩ | ⟨b, e1, e2⟩ | ⟨b, e1, e2⟩ | ⟨b, e1, e2⟩ | ⟨b, e1, e2⟩ | ⟨b, e1, e2⟩ | ⟨b, e1, e2⟩ | ⟨b, e1, e2⟩ | ⟨b, d, y, e1, e2⟩
    · rw [List.flatMap_cons, e1] at hdr hkn
      simp only [List.length_append, List.length_cons, List.length_nil, List.cons_append, List.nil_append] at hdr hkn
      obtain ⟨a0, hdr1⟩ := at_next (k' := k + 1) hk0 (by omega) hdr (by omega)
      k_steps
      all_goals (refine ⟨_, _, _, _, _, _, _, _, rfl, canon3 (by assumption) (by with_unfolding_all rfl) (by with_unfolding_all rfl) (by with_unfolding_all rfl), news_two (by assumption) (by k_mem) (by k_mem) (fun p hp => by repeat first | exact hp | refine List.mem_cons_of_mem _ ?_), by omega, lt_mono al (by omega), by assumption, by omega, by assumption, by omega, ?_, ?_, fun c hc => hrc c (List.mem_cons_of_mem _ hc)⟩)
      · rw [List.length_append, List.length_cons, List.length_nil]; omega
      · rw [← hfin, List.flatMap_cons, e4, if_pos ⟨by assumption, by assumption⟩, List.append_assoc]
      · rw [List.length_append, List.length_cons, List.length_nil]; omega
      · rw [← hfin, List.flatMap_cons, e4, if_neg (by omega), List.append_assoc]
      · rw [List.length_append, List.length_cons, List.length_nil]; omega
      · rw [← hfin, List.flatMap_cons, e4, if_neg (by omega), List.append_assoc]
    · rw [List.flatMap_cons, e1] at hdr hkn
      simp only [List.length_append, List.length_cons, List.length_nil, List.cons_append, List.nil_append] at hdr hkn
      obtain ⟨a0, hdr1⟩ := at_next (k' := k + 1) hk0 (by omega) hdr (by omega)
      obtain ⟨a1, hdr2⟩ := at_next (k' := k + 2) (by omega) (by omega) hdr1 (by omega)
      obtain ⟨hab1, hab2⟩ := two_ab e2
      k_steps
      all_goals (refine ⟨_, _, _, _, _, _, _, _, rfl, canon3 (by assumption) (by with_unfolding_all rfl) (by with_unfolding_all rfl) (by with_unfolding_all rfl), news_two (by assumption) (by k_mem) (by k_mem) (fun p hp => by repeat first | exact hp | refine List.mem_cons_of_mem _ ?_), by omega, lt_mono al (by omega), by assumption, by omega, by assumption, by omega, ?_, ?_, fun c hc => hrc c (List.mem_cons_of_mem _ hc)⟩)
      · rw [List.length_append]; omega
      · rw [← hfin, List.flatMap_cons, e3, List.append_assoc]
    · rw [List.flatMap_cons, e1] at hdr hkn
      simp only [List.length_append, List.length_cons, List.length_nil, List.cons_append, List.nil_append] at hdr hkn
      obtain ⟨a0, hdr1⟩ := at_next (k' := k + 1) hk0 (by omega) hdr (by omega)
      obtain ⟨a1, hdr2⟩ := at_next (k' := k + 2) (by omega) (by omega) hdr1 (by omega)
      obtain ⟨a2, hdr3⟩ := at_next (k' := k + 3) (by omega) (by omega) hdr2 (by omega)
      k_steps
      all_goals (refine ⟨_, _, _, _, _, _, _, _, rfl, canon3 (by assumption) (by with_unfolding_all rfl) (by with_unfolding_all rfl) (by with_unfolding_all rfl), news_two (by assumption) (by k_mem) (by k_mem) (fun p hp => by repeat first | exact hp | refine List.mem_cons_of_mem _ ?_), by omega, lt_mono al (by omega), by assumption, by omega, by assumption, by omega, ?_, ?_, fun c hc => hrc c (List.mem_cons_of_mem _ hc)⟩)
      · rw [List.length_append]; simp only [List.length_cons, List.length_nil]; omega
      · rw [← hfin, List.flatMap_cons, e2, List.append_assoc]
    · rw [List.flatMap_cons, e1] at hdr hkn
      simp only [List.length_append, List.length_cons, List.length_nil, List.cons_append, List.nil_append] at hdr hkn
      obtain ⟨a0, hdr1⟩ := at_next (k' := k + 1) hk0 (by omega) hdr (by omega)
      obtain ⟨a1, hdr2⟩ := at_next (k' := k + 2) (by omega) (by omega) hdr1 (by omega)
      obtain ⟨a2, hdr3⟩ := at_next (k' := k + 3) (by omega) (by omega) hdr2 (by omega)
      k_steps
      all_goals (refine ⟨_, _, _, _, _, _, _, _, rfl, canon3 (by assumption) (by with_unfolding_all rfl) (by with_unfolding_all rfl) (by with_unfolding_all rfl), news_two (by assumption) (by k_mem) (by k_mem) (fun p hp => by repeat first | exact hp | refine List.mem_cons_of_mem _ ?_), by omega, lt_mono al (by omega), by assumption, by omega, by assumption, by omega, ?_, ?_, fun c hc => hrc c (List.mem_cons_of_mem _ hc)⟩)
      · rw [List.length_append]; simp only [List.length_cons, List.length_nil]; omega
      · rw [← hfin, List.flatMap_cons, e2, List.append_assoc]
    · rw [List.flatMap_cons, e1] at hdr hkn
      simp only [List.length_append, List.length_cons, List.length_nil, List.cons_append, List.nil_append] at hdr hkn
      obtain ⟨a0, hdr1⟩ := at_next (k' := k + 1) hk0 (by omega) hdr (by omega)
      obtain ⟨a1, hdr2⟩ := at_next (k' := k + 2) (by omega) (by omega) hdr1 (by omega)
      obtain ⟨a2, hdr3⟩ := at_next (k' := k + 3) (by omega) (by omega) hdr2 (by omega)
      k_steps
      all_goals (refine ⟨_, _, _, _, _, _, _, _, rfl, canon3 (by assumption) (by with_unfolding_all rfl) (by with_unfolding_all rfl) (by with_unfolding_all rfl), news_two (by assumption) (by k_mem) (by k_mem) (fun p hp => by repeat first | exact hp | refine List.mem_cons_of_mem _ ?_), by omega, lt_mono al (by omega), by assumption, by omega, by assumption, by omega, ?_, ?_, fun c hc => hrc c (List.mem_cons_of_mem _ hc)⟩)
      · rw [List.length_append]; simp only [List.length_cons, List.length_nil]; omega
      · rw [← hfin, List.flatMap_cons, e2, List.append_assoc]
    · rw [List.flatMap_cons, e1] at hdr hkn
      simp only [List.length_append, List.length_cons, List.length_nil, List.cons_append, List.nil_append] at hdr hkn
      obtain ⟨a0, hdr1⟩ := at_next (k' := k + 1) hk0 (by omega) hdr (by omega)
      obtain ⟨a1, hdr2⟩ := at_next (k' := k + 2) (by omega) (by omega) hdr1 (by omega)
      obtain ⟨a2, hdr3⟩ := at_next (k' := k + 3) (by omega) (by omega) hdr2 (by omega)
      have tu := tup74 X1
      k_steps
      all_goals (refine ⟨_, _, _, _, _, _, _, _, rfl, canon3 (by assumption) (by with_unfolding_all rfl) (by with_unfolding_all rfl) (by with_unfolding_all rfl), news_two (by assumption) (by k_mem) (by k_mem) (fun p hp => by repeat first | exact hp | refine List.mem_cons_of_mem _ ?_), by omega, lt_mono al (by omega), by assumption, by omega, by assumption, by omega, ?_, ?_, fun c hc => hrc c (List.mem_cons_of_mem _ hc)⟩)
      · rw [List.length_append]; simp only [List.length_cons, List.length_nil]; omega
      · rw [← hfin, List.flatMap_cons, e2, List.append_assoc]
    · rw [List.flatMap_cons, e1] at hdr hkn
      simp only [List.length_append, List.length_cons, List.length_nil, List.cons_append, List.nil_append] at hdr hkn
      obtain ⟨a0, hdr1⟩ := at_next (k' := k + 1) hk0 (by omega) hdr (by omega)
      obtain ⟨a1, hdr2⟩ := at_next (k' := k + 2) (by omega) (by omega) hdr1 (by omega)
      obtain ⟨a2, hdr3⟩ := at_next (k' := k + 3) (by omega) (by omega) hdr2 (by omega)
      have tu := tup75 X1
      k_steps
      all_goals (refine ⟨_, _, _, _, _, _, _, _, rfl, canon3 (by assumption) (by with_unfolding_all rfl) (by with_unfolding_all rfl) (by with_unfolding_all rfl), news_two (by assumption) (by k_mem) (by k_mem) (fun p hp => by repeat first | exact hp | refine List.mem_cons_of_mem _ ?_), by omega, lt_mono al (by omega), by assumption, by omega, by assumption, by omega, ?_, ?_, fun c hc => hrc c (List.mem_cons_of_mem _ hc)⟩)
      · rw [List.length_append]; simp only [List.length_cons, List.length_nil]; omega
      · rw [← hfin, List.flatMap_cons, e2, List.append_assoc]
    · rw [List.flatMap_cons, e1] at hdr hkn
      simp only [List.length_append, List.length_cons, List.length_nil, List.cons_append, List.nil_append] at hdr hkn
      obtain ⟨a0, hdr1⟩ := at_next (k' := k + 1) hk0 (by omega) hdr (by omega)
      obtain ⟨a1, hdr2⟩ := at_next (k' := k + 2) (by omega) (by omega) hdr1 (by omega)
      obtain ⟨a2, hdr3⟩ := at_next (k' := k + 3) (by omega) (by omega) hdr2 (by omega)
      have tu := tup76 X1
      k_steps
      all_goals (refine ⟨_, _, _, _, _, _, _, _, rfl, canon3 (by assumption) (by with_unfolding_all rfl) (by with_unfolding_all rfl) (by with_unfolding_all rfl), news_two (by assumption) (by k_mem) (by k_mem) (fun p hp => by repeat first | exact hp | refine List.mem_cons_of_mem _ ?_), by omega, lt_mono al (by omega), by assumption, by omega, by assumption, by omega, ?_, ?_, fun c hc => hrc c (List.mem_cons_of_mem _ hc)⟩)
      · rw [List.length_append]; simp only [List.length_cons, List.length_nil]; omega
      · rw [← hfin, List.flatMap_cons, e2, List.append_assoc]
    · rw [List.flatMap_cons, e1] at hdr hkn
      simp only [List.length_append, List.length_cons, List.length_nil, List.cons_append, List.nil_append] at hdr hkn
      obtain ⟨a0, hdr1⟩ := at_next (k' := k + 1) hk0 (by omega) hdr (by omega)
      obtain ⟨a1, hdr2⟩ := at_next (k' := k + 2) (by omega) (by omega) hdr1 (by omega)
      obtain ⟨a2, hdr3⟩ := at_next (k' := k + 3) (by omega) (by omega) hdr2 (by omega)
      have tu := tup77 X1
      k_steps
      all_goals (refine ⟨_, _, _, _, _, _, _, _, rfl, canon3 (by assumption) (by with_unfolding_all rfl) (by with_unfolding_all rfl) (by with_unfolding_all rfl), news_two (by assumption) (by k_mem) (by k_mem) (fun p hp => by repeat first | exact hp | refine List.mem_cons_of_mem _ ?_), by omega, lt_mono al (by omega), by assumption, by omega, by assumption, by omega, ?_, ?_, fun c hc => hrc c (List.mem_cons_of_mem _ hc)⟩)
      · rw [List.length_append]; simp only [List.length_cons, List.length_nil]; omega
      · rw [← hfin, List.flatMap_cons, e2, List.append_assoc]
    · rw [List.flatMap_cons, e1] at hdr hkn
      simp only [List.length_append, List.length_cons, List.length_nil, List.cons_append, List.nil_append] at hdr hkn
      obtain ⟨a0, hdr1⟩ := at_next (k' := k + 1) hk0 (by omega) hdr (by omega)
      obtain ⟨a1, hdr2⟩ := at_next (k' := k + 2) (by omega) (by omega) hdr1 (by omega)
      obtain ⟨a2, hdr3⟩ := at_next (k' := k + 3) (by omega) (by omega) hdr2 (by omega)
      have tu := tup78 X1
      k_steps
      all_goals (refine ⟨_, _, _, _, _, _, _, _, rfl, canon3 (by assumption) (by with_unfolding_all rfl) (by with_unfolding_all rfl) (by with_unfolding_all rfl), news_two (by assumption) (by k_mem) (by k_mem) (fun p hp => by repeat first | exact hp | refine List.mem_cons_of_mem _ ?_), by omega, lt_mono al (by omega), by assumption, by omega, by assumption, by omega, ?_, ?_, fun c hc => hrc c (List.mem_cons_of_mem _ hc)⟩)
      · rw [List.length_append]; simp only [List.length_cons, List.length_nil]; omega
      · rw [← hfin, List.flatMap_cons, e2, List.append_assoc]
    · rw [List.flatMap_cons, e1] at hdr hkn
      simp only [List.length_append, List.length_cons, List.length_nil, List.cons_append, List.nil_append] at hdr hkn
      obtain ⟨a0, hdr1⟩ := at_next (k' := k + 1) hk0 (by omega) hdr (by omega)
      obtain ⟨a1, hdr2⟩ := at_next (k' := k + 2) (by omega) (by omega) hdr1 (by omega)
      obtain ⟨a2, hdr3⟩ := at_next (k' := k + 3) (by omega) (by omega) hdr2 (by omega)
      have tu := tup79 X1
      k_steps
      all_goals (refine ⟨_, _, _, _, _, _, _, _, rfl, canon3 (by assumption) (by with_unfolding_all rfl) (by with_unfolding_all rfl) (by with_unfolding_all rfl), news_two (by assumption) (by k_mem) (by k_mem) (fun p hp => by repeat first | exact hp | refine List.mem_cons_of_mem _ ?_), by omega, lt_mono al (by omega), by assumption, by omega, by assumption, by omega, ?_, ?_, fun c hc => hrc c (List.mem_cons_of_mem _ hc)⟩)
      · rw [List.length_append]; simp only [List.length_cons, List.length_nil]; omega
      · rw [← hfin, List.flatMap_cons, e2, List.append_assoc]
    · rw [List.flatMap_cons, e1] at hdr hkn
      simp only [List.length_append, List.length_cons, List.length_nil, List.cons_append, List.nil_append] at hdr hkn
      obtain ⟨a0, hdr1⟩ := at_next (k' := k + 1) hk0 (by omega) hdr (by omega)
      obtain ⟨a1, hdr2⟩ := at_next (k' := k + 2) (by omega) (by omega) hdr1 (by omega)
      obtain ⟨a2, hdr3⟩ := at_next (k' := k + 3) (by omega) (by omega) hdr2 (by omega)
      have tu := tup80 X1
      k_steps
      all_goals (refine ⟨_, _, _, _, _, _, _, _, rfl, canon3 (by assumption) (by with_unfolding_all rfl) (by with_unfolding_all rfl) (by with_unfolding_all rfl), news_two (by assumption) (by k_mem) (by k_mem) (fun p hp => by repeat first | exact hp | refine List.mem_cons_of_mem _ ?_), by omega, lt_mono al (by omega), by assumption, by omega, by assumption, by omega, ?_, ?_, fun c hc => hrc c (List.mem_cons_of_mem _ hc)⟩)
      · rw [List.length_append]; simp only [List.length_cons, List.length_nil]; omega
      · rw [← hfin, List.flatMap_cons, e2, List.append_assoc]
    · rw [List.flatMap_cons, e1] at hdr hkn
      simp only [List.length_append, List.length_cons, List.length_nil, List.cons_append, List.nil_append] at hdr hkn
      obtain ⟨a0, hdr1⟩ := at_next (k' := k + 1) hk0 (by omega) hdr (by omega)
      obtain ⟨a1, hdr2⟩ := at_next (k' := k + 2) (by omega) (by omega) hdr1 (by omega)
      obtain ⟨a2, hdr3⟩ := at_next (k' := k + 3) (by omega) (by omega) hdr2 (by omega)
      obtain ⟨a3, hdr4⟩ := at_next (k' := k + 4) (by omega) (by omega) hdr3 (by omega)
      k_steps
      all_goals (refine ⟨_, _, _, _, _, _, _, _, rfl, canon3 (by assumption) (by with_unfolding_all rfl) (by with_unfolding_all rfl) (by with_unfolding_all rfl), news_two (by assumption) (by k_mem) (by k_mem) (fun p hp => by repeat first | exact hp | refine List.mem_cons_of_mem _ ?_), by omega, lt_mono al (by omega), by assumption, by omega, by assumption, by omega, ?_, ?_, fun c hc => hrc c (List.mem_cons_of_mem _ hc)⟩)
      · rw [List.length_append]; simp only [List.length_cons, List.length_nil]; omega
      · rw [← hfin, List.flatMap_cons, e2, List.append_assoc]
  case fin =>
    clear F1 N1 al
    rintro _ ⟨h, tk, t, us, told, k, kt, u, rfl, F1, N1, lt, al, hU, hk0, hdr, hkn, htl, hfin, hrc⟩
    have hn : vs.toArray.size = ns.length := by simp [hI.length]
    simp only [List.flatMap_nil, List.length_nil, List.append_nil] at hkn hfin
    k_steps
    rw [← hfin] at hret
    exact hret _ _ _ _ (by assumption) (news_skip (by assumption)) (allLt_to al) hU
end Mine

end
section
open PySem PySem.W PyProof.Rows PySem.Calls
namespace Mine
section
variable {prog : Program} {w : World} {A : Around} {E : Value → Shared → Prop} {s : Shared} {env : Env} {h₀ : Heap} {x : Str} {body : List Stmt} {Q : Flow → Shared → Prop}
theorem post_mono {L I : Addr} {it : Obj} {r r' : (Str → Option Value) → List (Addr × Obj) → Prop} {s₁ : Shared} {f : Flow} {s₂ : Shared} (h : UnrPost h₀ L s₁ I it r Q f s₂) (hr : ∀ m n, r m n → r' m n) : UnrPost h₀ L s₁ I it r' Q f s₂ := by
  cases f with
  | ret v => exact h
  | brk => exact h
  | next => exact let ⟨h', tk, m', n', e, F, N, o, q⟩ := h; ⟨h', tk, m', n', e, F, N, o, hr _ _ q⟩
  | cont => exact let ⟨h', tk, m', n', e, F, N, o, q⟩ := h; ⟨h', tk, m', n', e, F, N, o, hr _ _ q⟩
/-- a loop over a list of the ledger, with an invariant of one's own -/
theorem list_ind {Iad : Addr} {lp : Addr × Obj} (I : List Value → (Str → Option Value) → List (Addr × Obj) → Prop)
    (turn : ∀ v r m news, I (v :: r) m news → ∀ (it : Obj) h tk, it.cls = .type "list_iterator" → Fr h₀ env.locals h (fun y => if y = x then some v else m y) → News h₀ env.locals h ((Iad, it) :: news) →
      wpAny (model prog w) A (execs body env) (UnrPost h₀ env.locals { s with heap := h, toks := tk } Iad it (fun m' n' => lp ∈ n' ∧ I r m' n') Q) E { s with heap := h, toks := tk })
    (fin : ∀ m news, I [] m news → ∀ h tk, Fr h₀ env.locals h m → News h₀ env.locals h news → Q .next { s with heap := h, toks := tk }) :
    ∀ l m news, I l m news → ListRest prog w A E h₀ env x body Q s Iad lp l m news
  | [], m, news, h => ListRest.zero (fin m news h)
  | v :: r, m, news, h => ListRest.succ fun it h' tk hc F N => wpAny_mono (turn v r m news h it h' tk hc F N) (fun _ _ p => post_mono p fun m' n' q => ⟨q.1, list_ind I turn fin r m' n' q.2⟩) fun _ _ e => e
/-- a loop over a text's signs, with an invariant of one's own -/
theorem text_ind {Iad : Addr} (I : List Nat → (Str → Option Value) → List (Addr × Obj) → Prop)
    (turn : ∀ c r m news, I (c :: r) m news → ∀ (it : Obj) t h tk, Fr h₀ env.locals h (fun y => if y = x then some (.str ⟨#[c]⟩ t) else m y) → News h₀ env.locals h ((Iad, it) :: news) →
      wpAny (model prog w) A (execs body env) (UnrPost h₀ env.locals { s with heap := h, toks := tk } Iad it (I r) Q) E { s with heap := h, toks := tk })
    (fin : ∀ m news, I [] m news → ∀ h tk, Fr h₀ env.locals h m → News h₀ env.locals h news → Q .next { s with heap := h, toks := tk }) :
    ∀ l m news, I l m news → TextRest prog w A E h₀ env x body Q s Iad l m news
  | [], m, news, h => TextRest.zero (fin m news h)
  | c :: r, m, news, h => TextRest.succ fun it t h' tk F N => wpAny_mono (turn c r m news h it t h' tk F N) (fun _ _ p => post_mono p fun m' n' q => text_ind I turn fin r m' n' q) fun _ _ e => e
end
theorem canonM1 {m' : Str → Option Value} {x : Str} {vx : Value} (hx : m' x = some vx) : m' = fun n => if n = x then some vx else m' n := by
  funext n
  by_cases e1 : n = x
  · rw [if_pos e1, e1, hx]
  · rw [if_neg e1]
theorem canonM2 {m' : Str → Option Value} {x y : Str} {vx vy : Value} (hx : m' x = some vx) (hy : m' y = some vy) : m' = fun n => if n = x then some vx else if n = y then some vy else m' n := by
  funext n
  by_cases e1 : n = x
  · rw [if_pos e1, e1, hx]
  · rw [if_neg e1]; exact congrFun (canonM1 hy) n
theorem canonM3 {m' : Str → Option Value} {x y z : Str} {vx vy vz : Value} (hx : m' x = some vx) (hy : m' y = some vy) (hz : m' z = some vz) : m' = fun n => if n = x then some vx else if n = y then some vy else if n = z then some vz else m' n := by
  funext n
  by_cases e1 : n = x
  · rw [if_pos e1, e1, hx]
  · rw [if_neg e1]; exact congrFun (canonM2 hy hz) n
end Mine

end
section
open PySem PySem.W PyProof.Rows PySem.Calls
namespace Mine
def RowAt (h : Heap) (r : Addr) (a b : Int) : Prop := ∃ t u, IsTup h r (List.toArray [Value.int a t, Value.int b u])
theorem tup61 {P : Params} {h : Heap} (X : (K P).In h) : IsTup h 61 (List.toArray [(Value.int (0) 2150), (Value.int (128) 2151)]) := ⟨_, X 61 ⟨.type "tuple", none, .seq (List.toArray [(Value.int (0) 2150), (Value.int (128) 2151)]) 0, #[]⟩ (by kernel_rfl), rfl, 0, rfl⟩
theorem tup62 {P : Params} {h : Heap} (X : (K P).In h) : IsTup h 62 (List.toArray [(Value.int (160) 2152), (Value.int (96) 2153)]) := ⟨_, X 62 ⟨.type "tuple", none, .seq (List.toArray [(Value.int (160) 2152), (Value.int (96) 2153)]) 0, #[]⟩ (by kernel_rfl), rfl, 0, rfl⟩
theorem tup63 {P : Params} {h : Heap} (X : (K P).In h) : IsTup h 63 (List.toArray [(Value.int (913) 2154), (Value.int (17) 2155)]) := ⟨_, X 63 ⟨.type "tuple", none, .seq (List.toArray [(Value.int (913) 2154), (Value.int (17) 2155)]) 0, #[]⟩ (by kernel_rfl), rfl, 0, rfl⟩
theorem tup64 {P : Params} {h : Heap} (X : (K P).In h) : IsTup h 64 (List.toArray [(Value.int (931) 2156), (Value.int (7) 2157)]) := ⟨_, X 64 ⟨.type "tuple", none, .seq (List.toArray [(Value.int (931) 2156), (Value.int (7) 2157)]) 0, #[]⟩ (by kernel_rfl), rfl, 0, rfl⟩
theorem tup65 {P : Params} {h : Heap} (X : (K P).In h) : IsTup h 65 (List.toArray [(Value.int (945) 2158), (Value.int (25) 2159)]) := ⟨_, X 65 ⟨.type "tuple", none, .seq (List.toArray [(Value.int (945) 2158), (Value.int (25) 2159)]) 0, #[]⟩ (by kernel_rfl), rfl, 0, rfl⟩
theorem tup66 {P : Params} {h : Heap} (X : (K P).In h) : IsTup h 66 (List.toArray [(Value.int (1024) 2160), (Value.int (96) 2161)]) := ⟨_, X 66 ⟨.type "tuple", none, .seq (List.toArray [(Value.int (1024) 2160), (Value.int (96) 2161)]) 0, #[]⟩ (by kernel_rfl), rfl, 0, rfl⟩
theorem tup67 {P : Params} {h : Heap} (X : (K P).In h) : IsTup h 67 (List.toArray [(Value.int (1329) 2162), (Value.int (38) 2163)]) := ⟨_, X 67 ⟨.type "tuple", none, .seq (List.toArray [(Value.int (1329) 2162), (Value.int (38) 2163)]) 0, #[]⟩ (by kernel_rfl), rfl, 0, rfl⟩
theorem tup68 {P : Params} {h : Heap} (X : (K P).In h) : IsTup h 68 (List.toArray [(Value.int (1377) 2164), (Value.int (39) 2165)]) := ⟨_, X 68 ⟨.type "tuple", none, .seq (List.toArray [(Value.int (1377) 2164), (Value.int (39) 2165)]) 0, #[]⟩ (by kernel_rfl), rfl, 0, rfl⟩
theorem tup69 {P : Params} {h : Heap} (X : (K P).In h) : IsTup h 69 (List.toArray [(Value.int (8486) 2166), (Value.int (1) 2167)]) := ⟨_, X 69 ⟨.type "tuple", none, .seq (List.toArray [(Value.int (8486) 2166), (Value.int (1) 2167)]) 0, #[]⟩ (by kernel_rfl), rfl, 0, rfl⟩
theorem tup70 {P : Params} {h : Heap} (X : (K P).In h) : IsTup h 70 (List.toArray [(Value.int (8490) 2168), (Value.int (2) 2169)]) := ⟨_, X 70 ⟨.type "tuple", none, .seq (List.toArray [(Value.int (8490) 2168), (Value.int (2) 2169)]) 0, #[]⟩ (by kernel_rfl), rfl, 0, rfl⟩
theorem tup71 {P : Params} {h : Heap} (X : (K P).In h) : IsTup h 71 (List.toArray [(Value.int (64256) 2170), (Value.int (7) 2171)]) := ⟨_, X 71 ⟨.type "tuple", none, .seq (List.toArray [(Value.int (64256) 2170), (Value.int (7) 2171)]) 0, #[]⟩ (by kernel_rfl), rfl, 0, rfl⟩
theorem tup72 {P : Params} {h : Heap} (X : (K P).In h) : IsTup h 72 (List.toArray [(Value.int (119808) 2172), (Value.int (26) 2173)]) := ⟨_, X 72 ⟨.type "tuple", none, .seq (List.toArray [(Value.int (119808) 2172), (Value.int (26) 2173)]) 0, #[]⟩ (by kernel_rfl), rfl, 0, rfl⟩
theorem tup73 {P : Params} {h : Heap} (X : (K P).In h) : IsTup h 73 (List.toArray [(Value.ref 61), (Value.ref 62), (Value.ref 63), (Value.ref 64), (Value.ref 65), (Value.ref 66), (Value.ref 67), (Value.ref 68), (Value.ref 69), (Value.ref 70), (Value.ref 71), (Value.ref 72)]) := ⟨_, X 73 ⟨.type "tuple", none, .seq (List.toArray [(Value.ref 61), (Value.ref 62), (Value.ref 63), (Value.ref 64), (Value.ref 65), (Value.ref 66), (Value.ref 67), (Value.ref 68), (Value.ref 69), (Value.ref 70), (Value.ref 71), (Value.ref 72)]) 0, #[]⟩ (by kernel_rfl), rfl, 0, rfl⟩
section
variable {prog : Program} {w : World} {A : Around} {E : Value → Shared → Prop} {s : Shared} {h₀ : Heap} {L : Addr} {m : Str → Option Value}
theorem rows_item {P : Params} {k : Int} {u : Tok} {value slice : Expr} {Q : Value → Shared → Prop} (F : Fr h₀ L s.heap m) (X : (K P).In h₀) (h0 : 0 ≤ k) (h1 : k < 12)
    (h : ∀ r a b, RowAt h₀ r a b → (a, b) ∈ rowsL → 0 < b → Q (.ref r) s)
    (hs : ∀ j u, subscripted slice false (.ref 73) (.int j u) = operate [.ref 73, .int j u] (getItem (.ref 73) (.int j u)) := by intro _ _; with_unfolding_all rfl) (hg : ∀ r, letTemporaryGo value (.ref 73) r = pure () := by intro _; with_unfolding_all rfl) :
    wpAny (model prog w) A (subscriptTail value slice (.ref 73) (.int k u)) Q E s := by
  have T := F.tup (tup73 X)
  have e : k = 0 ∨ k = 1 ∨ k = 2 ∨ k = 3 ∨ k = 4 ∨ k = 5 ∨ k = 6 ∨ k = 7 ∨ k = 8 ∨ k = 9 ∨ k = 10 ∨ k = 11 := by omega
  rcases e with rfl | rfl | rfl | rfl | rfl | rfl | rfl | rfl | rfl | rfl | rfl | rfl
  · exact item_tuple (j := 0) T (by decide) (by decide) (by rfl) (by rfl) (h _ _ _ ⟨_, _, tup61 X⟩ (by decide) (by decide)) (hs _ _) hg
  · exact item_tuple (j := 1) T (by decide) (by decide) (by rfl) (by rfl) (h _ _ _ ⟨_, _, tup62 X⟩ (by decide) (by decide)) (hs _ _) hg
  · exact item_tuple (j := 2) T (by decide) (by decide) (by rfl) (by rfl) (h _ _ _ ⟨_, _, tup63 X⟩ (by decide) (by decide)) (hs _ _) hg
  · exact item_tuple (j := 3) T (by decide) (by decide) (by rfl) (by rfl) (h _ _ _ ⟨_, _, tup64 X⟩ (by decide) (by decide)) (hs _ _) hg
  · exact item_tuple (j := 4) T (by decide) (by decide) (by rfl) (by rfl) (h _ _ _ ⟨_, _, tup65 X⟩ (by decide) (by decide)) (hs _ _) hg
  · exact item_tuple (j := 5) T (by decide) (by decide) (by rfl) (by rfl) (h _ _ _ ⟨_, _, tup66 X⟩ (by decide) (by decide)) (hs _ _) hg
  · exact item_tuple (j := 6) T (by decide) (by decide) (by rfl) (by rfl) (h _ _ _ ⟨_, _, tup67 X⟩ (by decide) (by decide)) (hs _ _) hg
  · exact item_tuple (j := 7) T (by decide) (by decide) (by rfl) (by rfl) (h _ _ _ ⟨_, _, tup68 X⟩ (by decide) (by decide)) (hs _ _) hg
  · exact item_tuple (j := 8) T (by decide) (by decide) (by rfl) (by rfl) (h _ _ _ ⟨_, _, tup69 X⟩ (by decide) (by decide)) (hs _ _) hg
  · exact item_tuple (j := 9) T (by decide) (by decide) (by rfl) (by rfl) (h _ _ _ ⟨_, _, tup70 X⟩ (by decide) (by decide)) (hs _ _) hg
  · exact item_tuple (j := 10) T (by decide) (by decide) (by rfl) (by rfl) (h _ _ _ ⟨_, _, tup71 X⟩ (by decide) (by decide)) (hs _ _) hg
  · exact item_tuple (j := 11) T (by decide) (by decide) (by rfl) (by rfl) (h _ _ _ ⟨_, _, tup72 X⟩ (by decide) (by decide)) (hs _ _) hg
theorem row_zero {r : Addr} {a b : Int} {u : Tok} {value slice : Expr} {Q : Value → Shared → Prop} (F : Fr h₀ L s.heap m) (R : RowAt h₀ r a b) (h : ∀ t, Q (.int a t) s)
    (hs : subscripted slice false (.ref r) (.int 0 u) = operate [.ref r, .int 0 u] (getItem (.ref r) (.int 0 u)) := by with_unfolding_all rfl) (hg : ∀ x, letTemporaryGo value (.ref r) x = pure () := by intro _; with_unfolding_all rfl) :
    wpAny (model prog w) A (subscriptTail value slice (.ref r) (.int 0 u)) Q E s :=
  let ⟨_, _, T⟩ := R
  item_tuple (j := 0) (F.tup T) (by decide) (by decide) (by rfl) (by rfl) (h _) hs hg
theorem row_one {r : Addr} {a b : Int} {u : Tok} {value slice : Expr} {Q : Value → Shared → Prop} (F : Fr h₀ L s.heap m) (R : RowAt h₀ r a b) (h : ∀ t, Q (.int b t) s)
    (hs : subscripted slice false (.ref r) (.int 1 u) = operate [.ref r, .int 1 u] (getItem (.ref r) (.int 1 u)) := by with_unfolding_all rfl) (hg : ∀ x, letTemporaryGo value (.ref r) x = pure () := by intro _; with_unfolding_all rfl) :
    wpAny (model prog w) A (subscriptTail value slice (.ref r) (.int 1 u)) Q E s :=
  let ⟨_, _, T⟩ := R
  item_tuple (j := 1) (F.tup T) (by decide) (by decide) (by rfl) (by rfl) (h _) hs hg
end
end Mine

end
open PySem PySem.W PyProof.Rows PySem.Calls
theorem Mine.fm0 (x : Int) : 0 ≤ x.fmod 12 := Int.fmod_nonneg_of_pos x (by decide)
theorem Mine.fm1 (x : Int) : x.fmod 12 < 12 := Int.fmod_lt_of_pos x (by decide)
theorem Mine.written_len (c : Int) : (Mine.written c).length ≤ 4 := by unfold written; split <;> (try split) <;> (try split) <;> simp
theorem Mine.written_lenI {ws : List Value} {c : Int} (h : IntsAre ws (Mine.written c)) : (Mine.written c).length ≤ 4 := Mine.written_len c
theorem Mine.foldO_len {c : Int} (h : Mine.RowCode c) : (Mine.foldO c).length ≤ 4 := by
  rcases row_case h with ⟨a, _, _, _, e4⟩ | ⟨a, b, _, _, e3⟩ | ⟨b, _, e2⟩ | ⟨b, _, e2⟩ | ⟨b, _, e2⟩ | ⟨b, _, e2⟩ | ⟨b, _, e2⟩ | ⟨b, _, e2⟩ | ⟨b, _, e2⟩ | ⟨b, _, e2⟩ | ⟨b, _, e2⟩ | ⟨b, _, e2⟩ | ⟨b, d, y, _, e2⟩
  · rw [e4]; split <;> simp
  · rw [e3]; exact two_len a b
  all_goals (rw [e2]; simp)
theorem Mine.flat_len {f : Int → List Int} : ∀ {l : List Int}, (∀ c ∈ l, (f c).length ≤ 4) → (l.flatMap f).length ≤ 4 * l.length
  | [], _ => by simp
  | c :: r, h => by
    rw [List.flatMap_cons, List.length_append, List.length_cons]
    have := h c (List.mem_cons_self ..)
    have := Mine.flat_len (l := r) fun d hd => h d (List.mem_cons_of_mem _ hd)
    omega
theorem Mine.row_code {a b y : Int} (h : (a, b) ∈ Mine.rowsL) (hb : 0 < b) : Mine.RowCode (a + y.fmod b) := ⟨(a, b), h, by have := Int.fmod_nonneg_of_pos y hb; show a ≤ _; omega, by have := Int.fmod_lt_of_pos y hb; show _ < a + b; omega⟩
def Mine.I1 (l1 Da : Addr) (wa : List Value) (l : List Value) (m : Str → Option Value) (news : List (Addr × Obj)) : Prop := ∃ (u : Str → Option Value) (us : List Value) (c : Nat) (cs ls : List Int), m = (fun y => if y = Str.ofString "codes" then some (.ref l1) else u y) ∧ news = [(Da, W.listOf wa.toArray 0), (l1, W.listOf us.toArray c)] ∧ IntsAre l ls ∧ IntsAre us cs ∧ (∀ x ∈ cs, RowCode x) ∧ cs.length + ls.length ≤ 40
def Mine.I2 (l1 Iad : Addr) (wl : Obj) (cs : List Int) (l : List Value) (m : Str → Option Value) (news : List (Addr × Obj)) : Prop := ∃ (u : Str → Option Value) (o f : Addr) (us1 us2 : List Value) (done rest : List Int), m = (fun y => if y = Str.ofString "octets" then some (.ref o) else if y = Str.ofString "folded" then some (.ref f) else u y) ∧ news = [(f, W.listOf us2.toArray 0), (o, W.listOf us1.toArray 0), (l1, wl)] ∧ IntsAre l rest ∧ IntsAre us1 (done.flatMap written) ∧ IntsAre us2 (done.flatMap foldO) ∧ done ++ rest = cs ∧ (f < Iad ∨ Iad < f) ∧ (o < Iad ∨ Iad < o)
def Mine.J2 (l1 Iad o Jad : Addr) (wl it : Obj) (us1 : List Value) (tgt : List Int) (l : List Nat) (m : Str → Option Value) (news : List (Addr × Obj)) : Prop := ∃ (u : Str → Option Value) (f : Addr) (us2 : List Value) (fd : List Int), m = (fun y => if y = Str.ofString "octets" then some (.ref o) else if y = Str.ofString "folded" then some (.ref f) else u y) ∧ news = [(f, W.listOf us2.toArray 0), (Iad, it), (o, W.listOf us1.toArray 0), (l1, wl)] ∧ IntsAre us2 fd ∧ (fd ++ l.flatMap fun (d : Nat) => written (d : Int)) = tgt ∧ (f < Iad ∨ Iad < f) ∧ (f < Jad ∨ Jad < f) ∧ ∀ d ∈ l, d < 1114112
theorem Mine.news_drop3 {g : Heap} {L : Addr} {h : Heap} {a b c d : Addr × Obj} (N : News g L h [a, b, c, d]) : News g L h [a, b, d] := fun p hp => N p (by
  simp only [List.mem_cons, List.not_mem_nil, or_false] at hp ⊢
  rcases hp with h | h | h
  · exact .inl h
  · exact .inr (.inl h)
  · exact .inr (.inr (.inr h)))
theorem Mine.news_pick4 {g : Heap} {L : Addr} {h : Heap} {a b c d e f : Addr × Obj} (N : News g L h [a, b, c, d, e, f]) : News g L h [d, c, a, f] := fun p hp => N p (by
  simp only [List.mem_cons, List.not_mem_nil, or_false] at hp ⊢
  rcases hp with h | h | h | h
  · exact .inr (.inr (.inr (.inl h)))
  · exact .inr (.inr (.inl h))
  · exact .inl h
  · exact .inr (.inr (.inr (.inr (.inr h)))))
theorem Mine.append_own {prog : Program} {w : World} {A : Around} {E : Value → Shared → Prop} {s : Shared} {h₀ : Heap} {L : Addr} {m : Str → Option Value} {l1 Iad Da : Addr} {it o2 : Obj} {us : List Value} {c : Nat} {x : Value} {Q : Value → Shared → Prop} (F : Fr h₀ L s.heap m) (N : News h₀ L s.heap [(Iad, it), (Da, o2), (l1, W.listOf us.toArray c)]) (n1 : Iad ≠ l1) (n2 : Da ≠ l1) (hsz : us.length ≤ 100)
    (h : ∀ h', Fr h₀ L h' m → News h₀ L h' [(Iad, it), (Da, o2), (l1, W.listOf (us ++ [x]).toArray (c + 1))] → Q .none { s with heap := h' }) :
    wpAny (model prog w) A (call (.builtin "list.append") [.ref l1, x]) Q E s := by
  have N2 : News h₀ L s.heap ((l1, W.listOf us.toArray c) :: [(Iad, it), (Da, o2)]) := fun p hp => N p (by
    simp only [List.mem_cons, List.not_mem_nil, or_false] at hp ⊢
    rcases hp with h | h | h
    · exact .inr (.inr h)
    · exact .inl h
    · exact .inr (.inl h))
  refine append_head F N2 (fun p hp => by
    simp only [List.mem_cons, List.not_mem_nil, or_false] at hp
    rcases hp with rfl | rfl
    · exact n1
    · exact n2) (fun h' F' N' => h h' F' fun p hp => ?_) (by rw [List.size_toArray]; exact Nat.le_trans hsz (by decide))
  rw [List.push_toArray] at N'
  refine N' p ?_
  simp only [List.mem_cons, List.not_mem_nil, or_false] at hp ⊢
  rcases hp with h | h | h
  · exact .inr (.inl h)
  · exact .inr (.inr h)
  · exact .inl h
open Mine
local macro_rules | `(tactic| walk_at "call builtin:list.append") => `(tactic| (k_here; k_dflt (refine' Mine.append_own ?F ?N ?n1 ?n2 ?hs ?_); (case F => k_asm); (case N => k_asm); (case n1 => assumption); (case n2 => assumption); (case hs => assumption); k_whole; intro hA FA NA; (try k_sweep)))
local macro_rules | `(tactic| walk_at "execs cons") => `(tactic| (k_here; (with_reducible show wpAny _ _ _ _ _ { heap := _, gens := _, drawn := _, toks := _ + 1, os := _ }); k_dflt (refine Mine.gen_toks ?_); intro tk))
local macro_rules | `(tactic| walk_at "execs nil") => `(tactic| (k_here; (with_reducible show wpAny _ _ _ _ _ { heap := _, gens := _, drawn := _, toks := _ + 1, os := _ }); k_dflt (refine Mine.gen_toks ?_); intro tk))
/-- a call from the law's own level -/
theorem Mine.CT.top {w : World} {f : Addr} {vs : List Value} {R : Heap → Addr → (Str → Option Value) → List (Addr × Obj) → Shared → (Value → Shared → Prop) → Prop} {d : Nat} (C : CT w f vs R d)
    {loose : List Str} {mean : ExcName → Option Value} {mg mb : Str → Option Value} {cn : Str} {cs : Scope} {a : Addr} {ccd : Value} {h₀ : Heap} {L : Addr}
    {m : Str → Option Value} {news : List (Addr × Obj)} {s : Shared} {Q E : Value → Shared → Prop}
    (F : Fr h₀ L s.heap m) (X : (K w.params).In h₀) (N : News h₀ L s.heap news) (T : Top vq loose mean mg mb h₀) (hk : cs.kind = .function) (hd : (callerA.deeper (envOf cn cs L a ccd)).depth + d < recursionLimit) (hu : (callerA.deeper (envOf cn cs L a ccd)).units + 40 * d < cLine)
    (hR : R h₀ L m news s Q) : wpAny (model pw w) (callerA.deeper (envOf cn cs L a ccd)) (call (.ref f) vs) Q E s :=
  C loose mean mg mb _ _ _ cn cs a ccd [] [] callerA h₀ h₀ L m news s Q E (below_caller h₀) F X N T hk hd hu hR
local macro_rules | `(tactic| walk_at "call ref") => `(tactic| (k_here; first
  | ((with_reducible show wpAny _ _ (call (Value.ref 88) [Value.int _ _]) _ _ _); k_dflt (refine' CT.top (written_ct _ _ _ ?h0 ?h1) ?k2 ?k3 ?k4 ?k5 ?kK ?kd ?ku ?kR); (case h0 => k_dflt (first | assumption | omega)); (case h1 => k_dflt (first | assumption | omega)); (case k2 => k_dflt k_asm); (case k3 => k_asm); (case k4 => k_dflt k_asm); (case k5 => k_asm); (case kK => k_dflt (first | exact rfl | assumption)); (case kd => k_dflt (first | ktr_room | decide +kernel)); (case ku => k_dflt (first | ktr_units | decide +kernel)); k_whole; walk_say "WRITTEN"; intro a' ws' h' tk' F' N' l1 hI'; have hM' := written_lenI hI'; (try k_lt l1); (try k_sweep))
  | (refine Stop.out ?_; walk_say "STOP AT CALL")))
local macro_rules | `(tactic| walk_at "call builtin:ord") => `(tactic| (k_here; (with_reducible show wpAny _ _ (call (Value.builtin "ord") [Value.str _ _]) _ _ _); refine' ord_one ?_; k_whole; (try dsimp only)))
local macro_rules | `(tactic| walk_at "exec For") => `(tactic| (k_here; (rename Fr _ _ _ _ => lF'); (with_unfolding_all refine' For_invVF lF' ?k1 ?k2 ?_; (case k1 => exact rfl); (case k2 => exact rfl); k_whole)))
local macro_rules | `(tactic| walk_at "exec For Name Subscript cons nil") => `(tactic| (k_here; (rename Fr _ _ _ _ => lF'); (with_unfolding_all refine' For_invVF lF' ?k1 ?k2 ?_; (case k1 => exact rfl); (case k2 => exact rfl); k_whole)))
local macro_rules | `(tactic| walk_at "exec For Name Name cons nil") => `(tactic| (k_here; (rename Fr _ _ _ _ => lF'); (with_unfolding_all refine' For_invVF lF' ?k1 ?k2 ?_; (case k1 => exact rfl); (case k2 => exact rfl); k_whole)))
local macro_rules | `(tactic| walk_at "pyIter ref") => `(tactic| (k_here; refine Stop.out ?_; walk_say "STOP AT ITER"))
local macro_rules | `(tactic| walk_at "pyIter str") => `(tactic| (k_here; refine Stop.out ?_; walk_say "STOP AT ITER"))
local macro_rules | `(tactic| walk_at "subscriptTail Name BinOp ref int") => `(tactic| (k_here; k_dflt (refine' Mine.rows_item ?F ?X ?a ?b ?_; (case F => k_asm); (case X => k_asm); (case a => exact Mine.fm0 _); (case b => exact Mine.fm1 _)); k_whole; intro rr ra rb hRow hIn hPos))
local macro_rules | `(tactic| walk_at "subscriptTail Name Constant ref int") => `(tactic| (k_here; (first | ((with_reducible show wpAny _ _ (subscriptTail _ _ (Value.ref _) (Value.int 0 _)) _ _ _); k_dflt (refine' Mine.row_zero ?F ?X ?_)) | ((with_reducible show wpAny _ _ (subscriptTail _ _ (Value.ref _) (Value.int 1 _)) _ _ _); k_dflt (refine' Mine.row_one ?F ?X ?_))); (case F => k_asm); (case X => k_asm); k_whole; intro tq))
set_option maxHeartbeats 2000000 in
theorem PySem.Challenge.cw_dw5011_03_holds : PySem.Challenge.rw_dw5011_03.Holds := by
  w_on; o_law
  refine holds_open (q := Mine.vq) (loose := Mine.looseM) (Xt := Mine.XtM) (XP := XL Mine.vq []) (Yf := Hook.obs (kHook Mine.K Mine.asK Mine.as_K)) (Ya := Hook.val (kHook Mine.K Mine.asK Mine.as_K)) (YP := Hook.says (kHook Mine.K Mine.asK Mine.as_K)) (N := 50000) Mine.left (Hook.of (kHook Mine.K Mine.asK Mine.as_K)) (Hook.keeps (kHook Mine.K Mine.asK Mine.as_K)) (fun s e => xl_of s (Bool.and_eq_true_iff.mp e).1) XL.keeps (by rfl) (by rfl) (by rfl) (fun s e => recFacts_of (Bool.and_eq_true_iff.mp e).2) (by rfl) (by assumption) (by decide +kernel) ⟨rfl, rfl, rfl, rfl, rfl, by decide +kernel⟩ ?hw ?hc
  case hw => w_witness2
  w_strict (
    k_go0; (try dsimp only [rhsOf]); k_steps
    unfold Stop
    rename_i l1 h2 lt0 h5 tka Da wa h6 F1 N1 hI1 hC1 hL1 lt1
    refine iter_listUnr (by rfl) F1 N1 (List.mem_cons_self ..) rfl rfl (fun Iad hI0 => ?_)
    refine list_ind (I := Mine.I1 l1 Da wa) ?turn ?fin _ _ _ ⟨_, [], 0, [], _, canonM1 (by with_unfolding_all rfl), rfl, hI1, IntsAre.nil, (fun _ h => nomatch h), by simp only [List.length_nil]; omega⟩
    case turn =>
      have ne1 : Iad ≠ l1 := Nat.ne_of_gt (hI0 (l1, _) (List.mem_cons_of_mem _ (List.mem_cons_self ..)))
      have ne2 : Da ≠ l1 := Nat.ne_of_gt lt1
      rintro v r _ _ ⟨u, us, c, cs, ls, rfl, rfl, hIl, hIu, hRC, hLen⟩ it h7 tk7 hit F2 N2
      cases hIl with
      | cons x t hIl' =>
      rw [List.length_cons] at hLen
      have hus : us.length ≤ 100 := by rw [hIu.length]; omega
      k_steps
      exact ⟨_, _, _, cs ++ [_], _, canonM1 (by with_unfolding_all rfl), rfl, hIl', hIu.append (IntsAre.cons _ _ IntsAre.nil), (fun z hz => by
        rcases List.mem_append.mp hz with hz | hz
        · exact hRC z hz
        · rw [List.mem_singleton.mp hz]; exact row_code (by assumption) (by assumption)), by rw [List.length_append, List.length_cons, List.length_nil]; omega⟩
    rintro _ _ ⟨u, us, c, cs, ls, rfl, rfl, hIl, hIu, hRC, hLen⟩ h3 tk3 F3 N3
    clear F1 N1
    cases hIl
    simp only [List.length_nil, Nat.add_zero] at hLen
    k_steps
    unfold Stop
    rename_i oA hA FA NA ltA hB fA hC ltB hD FD ND tkD
    have ND' := news_drop3 ND
    refine iter_listUnr (by rfl) FD ND' (List.mem_cons_of_mem _ (List.mem_cons_of_mem _ (List.mem_cons_self ..))) rfl rfl (fun Jad hJ0 => ?_)
    refine list_ind (I := Mine.I2 l1 Jad (W.listOf us.toArray c) cs) ?turn2 ?fin2 _ _ _ ⟨_, oA, fA, [], [], [], cs, canonM2 (by with_unfolding_all rfl) (by with_unfolding_all rfl), rfl, hIu, IntsAre.nil, IntsAre.nil, rfl, .inl (hJ0 _ (List.mem_cons_self ..)), .inl (hJ0 _ (List.mem_cons_of_mem _ (List.mem_cons_self ..)))⟩
    case turn2 =>
      have hlJ : l1 < Jad := hJ0 (l1, _) (List.mem_cons_of_mem _ (List.mem_cons_of_mem _ (List.mem_cons_self ..)))
      clear hJ0 FD ND ND' ltB FA NA ltA
      rintro v r _ _ ⟨u, o, f, us1, us2, done, rest, rfl, rfl, hIl, hI1', hI2', hcs, hf, ho⟩ it h7 tk7 hit F2 N2
      cases hIl with
      | cons code t hIl' =>
      have hrc : RowCode code := hRC _ (by rw [← hcs]; exact List.mem_append_right _ (List.mem_cons_self ..))
      obtain ⟨hc0, hc1⟩ := row_range hrc
      have hdn : done.length + 1 ≤ 40 := by rw [← hcs, List.length_append, List.length_cons] at hLen; omega
      have hb1 : (done.flatMap written).length ≤ 160 := by have := flat_len (l := done) (f := written) fun c _ => written_len c; omega
      have hb2 : (done.flatMap foldO).length ≤ 160 := by have := flat_len (l := done) (f := foldO) fun c hc => foldO_len (hRC c (by rw [← hcs]; exact List.mem_append_left _ hc)); omega
      k_steps
      unfold Stop
      rename_i aW wsW hW tkW hIW hMW ltW aO wsO hO hIO ltO hP FP NP tkP
      with_reducible show wpAny _ _ (call (Value.ref 60) [Value.str _ _]) _ _ _
      refine' CT.top (b3_ct _ _ _) FP ?k3 NP ?k5 ?kK ?kd ?ku ?kR
      case k3 => k_asm
      case k5 => k_asm
      case kK => exact rfl
      case kd => first | ktr_room | decide +kernel
      case ku => first | ktr_units | decide +kernel
      intro t' h' tk' F' N'
      k_sweep
      k_steps
      unfold Stop
      have N4 := news_pick4 N'
      have hbt : ((done ++ [code]).flatMap foldO).length ≤ 160 := by
        have := flat_len (l := done ++ [code]) (f := foldO) fun c hc => foldO_len (hRC c (by
          rw [← hcs]
          rcases List.mem_append.mp hc with hc | hc
          · exact List.mem_append_left _ hc
          · rw [List.mem_singleton.mp hc]; exact List.mem_append_right _ (List.mem_cons_self ..)))
        rw [List.length_append, List.length_cons, List.length_nil] at this
        omega
      refine iter_text (by rfl) F' N4 (fun Kad hK0 => ?_)
      refine text_ind (I := Mine.J2 l1 Jad aO Kad (W.listOf us.toArray c) it wsO ((done ++ [code]).flatMap foldO)) ?turn3 ?fin3 _ _ _ ⟨_, f, us2, done.flatMap foldO, canonM2 (by with_unfolding_all rfl) (by with_unfolding_all rfl), rfl, hI2', (by rw [List.flatMap_append, List.flatMap_cons, List.flatMap_nil, List.append_nil]; rfl), hf, .inl (hK0 _ (List.mem_cons_self ..)), row_sign hrc⟩
      case turn3 =>
        have hJK : Jad < Kad := hK0 (Jad, it) (List.mem_cons_of_mem _ (List.mem_cons_self ..))
        have hOK : aO < Kad := hK0 (aO, _) (List.mem_cons_of_mem _ (List.mem_cons_of_mem _ (List.mem_cons_self ..)))
        have hLK : l1 < Kad := hK0 (l1, _) (List.mem_cons_of_mem _ (List.mem_cons_of_mem _ (List.mem_cons_of_mem _ (List.mem_cons_self ..))))
        clear hK0 F' N' N4 F2 N2
        rintro d q _ _ ⟨u3, f3, us3, fd, rfl, rfl, hI3, htg, hf3, hfK, hsg⟩ it3 t3 h8 tk8 F3 N3
        have hb3 : fd.length ≤ 160 := by rw [← htg, List.length_append] at hbt; omega
        have hd0 : (0 : Int) ≤ (d : Int) := Int.natCast_nonneg d
        have hd1 : (d : Int) < 1114112 := by have := hsg d (List.mem_cons_self ..); omega
        k_steps
        unfold Stop
        with_reducible show wpAny _ _ (call (Value.ref 88) [Value.int _ _]) _ _ _
        refine' CT.top (written_ct _ _ _ ?xh0 ?xh1) F3 ?xk3 N3 ?xk5 ?xkK ?xkd ?xku ?xkR
        case xh0 => exact hd0
        case xh1 => exact hd1
        case xk3 => k_asm
        case xk5 => k_asm
        case xkK => exact rfl
        case xkd => first | ktr_room | decide +kernel
        case xku => first | ktr_units | decide +kernel
        intro a' ws' h' tk' F' N' ltw hI'
        have hM' := written_lenI hI'
        generalize hwd : written _ = wd at hI' hM'
        k_lt ltw
        k_sweep
        refine kmk_add_ints (vs := us3) (ws := ws') (ns := fd) (ms := wd) F' N' ⟨_, (N' (f3, _) (List.mem_cons_of_mem _ (List.mem_cons_of_mem _ (List.mem_cons_self ..)))).1, rfl, _, rfl⟩ ⟨_, (N' (a', _) (List.mem_cons_self ..)).1, rfl, _, rfl⟩ hI3 hI' (fun fN usN hN FN NN ltN hIN => ?_) (Nat.le_trans (show fd.length + wd.length ≤ 200 by omega) (by decide))
        k_lt ltN
        clear F' N' F3 N3
        iterate 4 (first | (k_unfold; (try dsimp only)) | walk1 | (dsimp only; walk1))
        rename_i hZ FZ NZ tkZ
        refine unrEnd_lt FZ NZ [(fN, W.listOf usN.toArray 0), (Jad, it), (aO, W.listOf wsO.toArray 0), (l1, W.listOf us.toArray c)] (List.mem_cons_of_mem _ (List.mem_cons_of_mem _ (List.mem_cons_self ..))) (fun p hp => ?_) (fun p hp => ?_) ?_
        · simp only [List.mem_cons, List.not_mem_nil, or_false] at hp ⊢
          rcases hp with h | h | h | h
          · exact .inl h
          · exact .inr (.inr (.inr (.inr (.inl h))))
          · exact .inr (.inr (.inr (.inr (.inr (.inl h)))))
          · exact .inr (.inr (.inr (.inr (.inr (.inr h)))))
        · simp only [List.mem_cons, List.not_mem_nil, or_false] at hp
          rcases hp with rfl | rfl | rfl | rfl
          · exact .inr ltN.2.1
          · exact .inl hJK
          · exact .inl hOK
          · exact .inl hLK
        · exact ⟨_, fN, usN, fd ++ wd, canonM2 (by with_unfolding_all rfl) (by with_unfolding_all rfl), rfl, hIN, (by rw [← htg, List.flatMap_cons, hwd, List.append_assoc]), .inr ltN.2.2.2.1, .inr ltN.2.1, fun z hz => hsg z (List.mem_cons_of_mem _ hz)⟩
      case fin3 =>
        clear hK0 F' N' N4 F2 N2
        rintro _ _ ⟨u3, f3, us3, fd, rfl, rfl, hI3, htg, hf3, hfK, hsg⟩ h9 tk9 F9 N9
        k_steps
        exact ⟨_, aO, f3, wsO, us3, done ++ [code], _, canonM2 (by with_unfolding_all rfl) (by with_unfolding_all rfl), rfl, hIl', (by rw [List.flatMap_append, List.flatMap_cons, List.flatMap_nil, List.append_nil]; exact hIO), (by rw [← htg, List.flatMap_nil, List.append_nil]; exact hI3), (by rw [List.append_assoc]; exact hcs), hf3, .inr ltO.2.1⟩
    rintro _ _ ⟨u, o, f, us1, us2, done, rest, rfl, rfl, hIl, hI1', hI2', hcs, hf, ho⟩ h7 tk7 F2 N2
    clear FD ND ND' ltB FA NA ltA hJ0
    cases hIl
    rw [List.append_nil] at hcs
    subst hcs
    have hb1 : (done.flatMap written).length ≤ 160 := by have := flat_len (l := done) (f := written) fun c _ => written_len c; omega
    k_steps
    unfold Stop
    refine' CT.top (walk_ct _ o us1 _ done hI1' rfl (by omega) hRC) F2 ?z3 N2 ?z5 ?zK ?zd ?zu ⟨List.mem_cons_of_mem _ (List.mem_cons_self ..), ?zR⟩
    case z3 => k_asm
    case z5 => k_asm
    case zK => exact rfl
    case zd => first | ktr_room | decide +kernel
    case zu => first | ktr_units | decide +kernel
    intro a' ws' h' tk' F' N' ltw hI'
    k_lt ltw
    k_sweep
    refine eq_intsK (vs := us2) (us := ws') ⟨_, (N' (f, _) (List.mem_cons_of_mem _ (List.mem_cons_self ..))).1, rfl, _, rfl⟩ hI2' ⟨_, (N' (a', _) (List.mem_cons_self ..)).1, rfl, _, rfl⟩ hI' (by first | ktr_units | decide +kernel) ?_
    rw [decide_eq_true rfl]
    k_steps)


