import PyProof.Rows.All
import Wide.All
import OpenK.AllK
import Wide.FinOn
import Lean
import PySem.Challenge.RW_dw5011_01
set_option Elab.async false
set_option maxRecDepth 100000
set_option linter.unusedVariables false
section
open PySem PySem.W PyProof.Rows PySem.Calls
namespace Mine

section
variable {p : Program} {w : World} {n₀ : Nat} {ann : Option Value}

theorem segGo_add : ∀ {n m : Nat} {s s1 : Shared} {t t1 : Thread} {r : Shared × Thread}, segGo treeTable p w n₀ ann 1 n s t = some (s1, t1) →
    segGo treeTable p w n₀ ann 1 m s1 t1 = some r → segGo treeTable p w n₀ ann 1 (n + m) s t = some r
  | 0, m, s, s1, t, t1, r, h, k => by
    obtain ⟨rfl, rfl⟩ : s = s1 ∧ t = t1 := by simpa [segGo] using h
    rw [Nat.zero_add]; exact k
  | n + 1, m, s, s1, t, t1, r, h, k => by
    rw [show n + 1 + m = n + m + 1 by omega]
    unfold segGo at h ⊢
    cases he : endAt 1 t with
    | some f => rw [he] at h; cases h
    | none =>
      rw [he] at h
      cases hk : stepOk n₀ ann t with
      | false => rw [hk] at h; cases h
      | true =>
        rw [hk] at h
        cases hs : step (denote treeTable) p w s t with
        | halt o s' => rw [hs] at h; cases h
        | go s' t' => rw [hs] at h; exact segGo_add h k

variable (p w n₀ ann) in
/-- it comes there in so many steps -/
def Reach (n : Nat) (s : Shared) (t : Thread) (s' : Shared) (t' : Thread) : Prop := segGo treeTable p w n₀ ann 1 n s t = some (s', t')

theorem Reach.rfl' {s : Shared} {t : Thread} : Reach p w n₀ ann 0 s t s t := rfl
theorem Reach.trans {n n' : Nat} {s s1 s2 : Shared} {t t1 t2 : Thread} (h : Reach p w n₀ ann n s t s1 t1) (k : Reach p w n₀ ann n' s1 t1 s2 t2) : Reach p w n₀ ann (n + n') s t s2 t2 := segGo_add h k
theorem Reach.one {s s1 : Shared} {t t1 : Thread} (h1 : endAt 1 t = none) (h2 : stepOk n₀ ann t = true) (h3 : step (denote treeTable) p w s t = .go s1 t1) : Reach p w n₀ ann 1 s t s1 t1 := by
  unfold Reach segGo; rw [h1, h2, h3]; rfl

variable (p w n₀ ann) in
/-- m: the steps told so far -/
def Wp (c : Code) (st : List Frame) {α : Type} (t : Sem α) (Q : α → Pos → Shared → Nat → Prop) (pos : Pos) (s : Shared) (m : Nat) : Prop :=
  ∃ a pos' s' n, Q a pos' s' (m + n) ∧ ∀ (K : α → Sem Fin) (H : Value → Sem Fin) (gd : Bool → Bool) (lv : List Value → List Value),
    Reach p w n₀ ann n s ⟨t.wrap K H gd lv, c, pos, st⟩ s' ⟨K a, c, pos', st⟩

section
variable {c : Code} {st : List Frame} {α β : Type} {pos : Pos} {s : Shared} {m : Nat}
theorem Wp.pure {a : α} {Q : α → Pos → Shared → Nat → Prop} (h : Q a pos s m) : Wp p w n₀ ann c st (.pure a) Q pos s m := ⟨a, pos, s, 0, h, fun _ _ _ _ => .rfl'⟩
theorem Wp.bind {t : Sem α} {f : α → Sem β} {Q : β → Pos → Shared → Nat → Prop} (h : Wp p w n₀ ann c st t (fun a pos' s' n => Wp p w n₀ ann c st (f a) Q pos' s' n) pos s m) :
    Wp p w n₀ ann c st (t >>= f) Q pos s m := by
  obtain ⟨a, p1, s1, n1, ⟨x, p2, s2, n2, hQ, h2⟩, h1⟩ := h
  refine ⟨x, p2, s2, n1 + n2, by rw [← Nat.add_assoc]; exact hQ, fun K H gd lv => ?_⟩
  have e : (t >>= f).wrap K H gd lv = t.wrap (fun a => (f a).wrap K H gd lv) H gd lv := by
    rw [Sem.bind_eq_wrap', Sem.wrap_wrap]; rfl
  rw [e]
  exact (h1 _ H gd lv).trans (h2 K H gd lv)
theorem Wp.keep {t : Sem α} {Q : α → Pos → Shared → Nat → Prop} {vs : List Value} (h : Wp p w n₀ ann c st t Q pos s m) : Wp p w n₀ ann c st (t.keep vs) Q pos s m := by
  obtain ⟨a, p1, s1, n1, hQ, h1⟩ := h
  refine ⟨a, p1, s1, n1, hQ, fun K H gd lv => ?_⟩
  have e : (t.keep vs).wrap K H gd lv = t.wrap K H gd (fun l => lv (vs ++ l)) := by
    rw [Sem.keep_eq_wrap, Sem.wrap_wrap]; rfl
  rw [e]
  exact h1 K H gd _
theorem Wp.holding {t : Sem α} {Q : α → Pos → Shared → Nat → Prop} {vs : List Value} (h : Wp p w n₀ ann c st t Q pos s m) : Wp p w n₀ ann c st (holding vs t) Q pos s m := by
  unfold PySem.holding
  split
  · exact h
  · exact h.keep
theorem Wp.onRaise {t : Sem α} {Q : α → Pos → Shared → Nat → Prop} {g : Value → Sem Unit} (h : Wp p w n₀ ann c st t Q pos s m) : Wp p w n₀ ann c st (t.onRaise g) Q pos s m := by
  obtain ⟨a, p1, s1, n1, hQ, h1⟩ := h
  refine ⟨a, p1, s1, n1, hQ, fun K H gd lv => ?_⟩
  rw [Sem.onRaise_eq_wrap, Sem.wrap_wrap]
  exact h1 _ _ _ _
theorem Wp.mono {t : Sem α} {Q Q' : α → Pos → Shared → Nat → Prop} (h : Wp p w n₀ ann c st t Q pos s m) (k : ∀ a p' s' n, Q a p' s' n → Q' a p' s' n) : Wp p w n₀ ann c st t Q' pos s m := by
  obtain ⟨a, p1, s1, n1, hQ, h1⟩ := h
  exact ⟨a, p1, s1, n1, k _ _ _ _ hQ, h1⟩

theorem Wp.node {n : Nat} {t : Sem α} {Q : α → Pos → Shared → Nat → Prop} {pos' : Pos} {s' : Shared} {t' : Sem α} (h : ∀ K H gd lv, Reach p w n₀ ann n s ⟨t.wrap K H gd lv, c, pos, st⟩ s' ⟨t'.wrap K H gd lv, c, pos', st⟩)
    (k : Wp p w n₀ ann c st t' Q pos' s' (m + n)) : Wp p w n₀ ann c st t Q pos s m := by
  obtain ⟨a, p1, s1, n1, hQ, h1⟩ := k
  exact ⟨a, p1, s1, n + n1, by rw [← Nat.add_assoc]; exact hQ, fun K H gd lv => (h K H gd lv).trans (h1 K H gd lv)⟩

theorem Wp.loadN {a : Addr} {part : Option Value} {k : Obj → Sem α} {o : Obj} {Q : α → Pos → Shared → Nat → Prop} (ho : s.heap.get? a = some o) (h : Wp p w n₀ ann c st (k o) Q pos s (m + 1)) : Wp p w n₀ ann c st (.load a part k) Q pos s m := by
  refine .node (fun K H gd lv => ?_) h
  refine .one (by unfold endAt Sem.wrap; split <;> simp_all) rfl ?_
  obtain ⟨hp, g, d, tk, os⟩ := s
  simp only [Sem.wrap, step]
  rw [show hp.get? a = some o from ho]
theorem Wp.updateN {a : Addr} {part : Option Value} {f : Obj → Obj} {k : Unit → Sem α} {Q : α → Pos → Shared → Nat → Prop} (ho : (s.heap.get? a).isSome = true) (hn : n₀ ≤ a) (h : Wp p w n₀ ann c st (k ()) Q pos { s with heap := s.heap.update a f } (m + 1)) :
    Wp p w n₀ ann c st (.update a part f k) Q pos s m := by
  refine .node (fun K H gd lv => ?_) h
  refine .one (by unfold endAt Sem.wrap; split <;> simp_all) ?_ ?_
  · have : Nat.ble n₀ a = true := Nat.ble_eq_true_of_le hn
    unfold stepOk
    simp only [Sem.wrap, this, Bool.true_or, Bool.and_true]
    rfl
  obtain ⟨hp, g, d, tk, os⟩ := s
  simp only [Sem.wrap, step]
  rw [if_pos ho]
theorem Wp.allocN {o : Obj} {k : Addr → Sem α} {Q : α → Pos → Shared → Nat → Prop} (h : Wp p w n₀ ann c st (k s.heap.objs.size) Q pos { s with heap := s.heap.push o } (m + 1)) : Wp p w n₀ ann c st (.alloc o k) Q pos s m := by
  refine .node (fun K H gd lv => ?_) h
  exact .one (by unfold endAt Sem.wrap; split <;> simp_all) rfl rfl
theorem Wp.freshN {k : Tok → Sem α} {Q : α → Pos → Shared → Nat → Prop} (h : Wp p w n₀ ann c st (k s.toks) Q pos { s with toks := s.toks + 1 } (m + 1)) : Wp p w n₀ ann c st (.fresh k) Q pos s m := by
  refine .node (fun K H gd lv => ?_) h
  exact .one (by unfold endAt Sem.wrap; split <;> simp_all) rfl rfl
theorem Wp.ruleN {r : String} {k : Unit → Sem α} {Q : α → Pos → Shared → Nat → Prop} (h : Wp p w n₀ ann c st (k ()) Q pos s (m + 1)) : Wp p w n₀ ann c st (.rule r k) Q pos s m := by
  refine .node (fun K H gd lv => ?_) h
  exact .one (by unfold endAt Sem.wrap; split <;> simp_all) rfl rfl
theorem Wp.atN {q : Pos} {k : Unit → Sem α} {Q : α → Pos → Shared → Nat → Prop} (h : Wp p w n₀ ann c st (k ()) Q q s (m + 1)) : Wp p w n₀ ann c st (.at q k) Q pos s m := by
  refine .node (fun K H gd lv => ?_) h
  exact .one (by unfold endAt Sem.wrap; split <;> simp_all) rfl rfl
theorem Wp.askN {k : Setting → Sem α} {Q : α → Pos → Shared → Nat → Prop} (h : Wp p w n₀ ann c st (k ⟨p, w.params⟩) Q pos s (m + 1)) : Wp p w n₀ ann c st (.ask k) Q pos s m := by
  refine .node (fun K H gd lv => ?_) h
  exact .one (by unfold endAt Sem.wrap; split <;> simp_all) rfl rfl
end
end
end Mine

namespace Mine
theorem den_call_hash (i : Int) (t : Tok) : denote treeTable (.call (.builtin "int.__hash__") ⟨[.int i t], []⟩) = .pure (.again (.builtin "int.__hash__" ⟨[.int i t], []⟩)) := by kernel_rfl
theorem den_hash (i : Int) (t : Tok) : denote treeTable (.builtin "int.__hash__" ⟨[.int i t], []⟩) = .fresh fun u => .pure (.done (.ret (.int (rawHash i) u))) := by kernel_rfl
theorem hash_slot (i : Int) (t : Tok) : specialOf (.int i t) "__hash__" = (pure (some (.builtin "int.__hash__")) : Sem (Option Value)) := by kernel_rfl
theorem hash_bindSpecial (i : Int) (t : Tok) : bindSpecial (.builtin "int.__hash__") (.int i t) = (pure (.builtin "int.__hash__", [.int i t]) : Sem (Value × List Value)) := by kernel_rfl

section
variable {p : Program} {w : World} {n₀ : Nat} {ann : Option Value} {c : Code} {fr : Frame} {st : List Frame} {pos : Pos} {s : Shared} {m : Nat}

theorem Wp.call_hash {α : Type} {i : Int} {t : Tok} {g : Bool} {l : List Value} {k : Result → Sem α} {Q : α → Pos → Shared → Nat → Prop}
    (h : Wp p w n₀ ann c (fr :: st) (k (.ok (.ret (.int (rawHash i) s.toks)))) Q pos { s with toks := s.toks + 1 } (m + (1 + (1 + (1 + 1))))) :
    Wp p w n₀ ann c (fr :: st) (.call (.call (.builtin "int.__hash__") ⟨[.int i t], []⟩) none g l k) Q pos s m := by
  refine .node (fun K H gd lv => ?_) h
  obtain ⟨hp, gs, d, tk, os⟩ := s
  have e2 : ∀ (x : Frame) (l : List Frame), ((x :: fr :: l).length == 1) = false := fun x l => by simp
  refine .trans (s1 := ⟨hp, gs, d, tk, os⟩) (t1 := ?t1) (.one (by simp [endAt, Sem.wrap]) rfl (by simp only [Sem.wrap, step]; exact rfl)) ?_
  rw [den_call_hash]
  refine .trans (s1 := ⟨hp, gs, d, tk, os⟩) (t1 := ?t2) (.one (by simp [endAt]) ?_ (by simp only [step]; exact rfl)) ?_
  · have e : ("int.__hash__".startsWith "lifetime.") = false := by decide +kernel
    show (((!("int.__hash__".startsWith "lifetime.") || _) && !false && true) && true) = true
    rw [e]; rfl
  rw [den_hash]
  refine .trans (s1 := ⟨hp, gs, d, tk + 1, os⟩) (t1 := ?t3) (.one (by simp [endAt]) rfl (by simp only [step]; exact rfl)) ?_
  exact .one (by simp [endAt]) rfl (by simp only [step])
theorem Wp.ite_same {α : Type} {b : Prop} [Decidable b] {t t1 t2 : Sem α} {Q : α → Pos → Shared → Nat → Prop} (h1 : t1 = t) (h2 : t2 = t) (h : Wp p w n₀ ann c st t Q pos s m) : Wp p w n₀ ann c st (if b then t1 else t2) Q pos s m := by
  rw [h1, h2, ite_self]; exact h
theorem Wp.pyHash_int {i : Int} {t : Tok} {Q : Int → Pos → Shared → Nat → Prop} (h : ∀ n, n ≤ m + 5 → Q (hashInt i) pos { s with toks := s.toks + 1 } n) :
    Wp p w n₀ ann c (fr :: st) (pyHash (.int i t)) Q pos s m := by
  have hr := rawHash_range i
  unfold pyHash pyHashByItsType
  refine .bind ?_
  rw [cRoomFor, if_neg (by simp [Value.onHeap])]
  refine .pure ?_
  rw [hash_slot]
  refine .bind (.pure ?_)
  rw [if_neg (by decide)]
  refine .bind (.pure ?_)
  rw [if_neg (by decide)]
  unfold callSpecialIfBoundUnlessNone? bindSpecialIfBound?
  refine .bind (.holding (.bind ?_))
  rw [hash_slot]
  refine .bind (.pure ?_)
  dsimp only
  refine .bind (.askN (.pure ?_))
  refine .ite_same (t := Sem.pure (some (.builtin "int.__hash__", [.int i t]))) (by rw [hash_bindSpecial]; rfl) (by rw [hash_bindSpecial]; rfl) ?_
  refine .pure ?_
  dsimp only
  rw [if_neg (by decide)]
  unfold call runValue run
  refine .bind (.bind (.call_hash ?_))
  refine Wp.pure ?_
  refine Wp.pure ?_
  refine Wp.pure ?_
  dsimp only
  unfold pyHashByItsType.reduced
  rw [if_pos (by rw [decide_eq_true hr.1, decide_eq_true hr.2]; rfl)]
  exact .pure (h _ (by omega))
end
end Mine

namespace Mine
/-- the heap that stood, and behind it the objects made since -/
def hp (base : Heap) (l : List Obj) : Heap := ⟨base.objs ++ l.toArray, base.life⟩
abbrev dO (es : List DictEntry) (n : Nat) : Obj := { cls := .type "dict", data := .dict es.toArray n }

theorem hp_size (base : Heap) (l : List Obj) : (hp base l).objs.size = base.objs.size + l.length := by simp [hp]
theorem hp_push (base : Heap) (l : List Obj) (o : Obj) : (hp base l).push o = hp base (l ++ [o]) := by
  simp [hp, Heap.push]
theorem hp_get {base : Heap} {l : List Obj} {i : Nat} {es : List DictEntry} {n : Nat} (h : l[i]? = some (dO es n)) : (hp base l).get? (base.objs.size + i) = some (dO es n) := by
  unfold Heap.get? hp
  have e : (base.objs ++ l.toArray)[base.objs.size + i]? = some (dO es n) := by
    rw [Array.getElem?_append_right (by omega)]
    simpa using h
  simp only [e]
theorem hp_update {base : Heap} {l : List Obj} {i : Nat} (f : Obj → Obj) (h : i < l.length) : (hp base l).update (base.objs.size + i) f = hp base (l.modify i f) := by
  unfold Heap.update hp
  simp only [Heap.mk.injEq, and_true]
  apply Array.ext_getElem?
  intro j
  rw [Array.getElem?_modify]
  by_cases hj : j < base.objs.size
  · rw [Array.getElem?_append_left hj, Array.getElem?_append_left hj, if_neg (by omega)]
  · rw [Array.getElem?_append_right (by omega), Array.getElem?_append_right (by omega)]
    simp only [List.getElem?_toArray, List.getElem?_modify]
    by_cases e : base.objs.size + i = j
    · subst e; simp
    · have q : i ≠ j - base.objs.size := by omega
      rw [if_neg e]; simp [q]

section
variable {p : Program} {w : World} {n₀ : Nat} {ann : Option Value} {c : Code} {fr : Frame} {st : List Frame} {pos : Pos} {s : Shared} {m : Nat}

theorem Wp.dictEntries {a : Addr} {part : Option Value} {es : List DictEntry} {n : Nat} {Q : Array DictEntry → Pos → Shared → Nat → Prop} (ho : s.heap.get? a = some (dO es n)) (h : Q es.toArray pos s (m + 1)) :
    Wp p w n₀ ann c st (dictEntries a part) Q pos s m := by
  unfold PySem.dictEntries loadPart
  exact .bind (.loadN ho (Wp.pure (Wp.pure h)))
theorem Wp.dictEpoch {a : Addr} {part : Option Value} {es : List DictEntry} {n : Nat} {Q : Nat → Pos → Shared → Nat → Prop} (ho : s.heap.get? a = some (dO es n)) (h : Q n pos s (m + 1)) :
    Wp p w n₀ ann c st (dictEpoch a part) Q pos s m := by
  unfold PySem.dictEpoch loadPart
  exact .bind (.loadN ho (Wp.pure (Wp.pure h)))

theorem places_nil {es : List DictEntry} {h : Int} (hn : ∀ e ∈ es, e.hash ≠ h) : placesWithHash es.toArray.size (fun i => es.toArray[i]?.map (·.hash)) h = [] := by
  unfold placesWithHash
  rw [List.filter_eq_nil_iff]
  intro i hi
  have hlt : i < es.length := by simpa using hi
  have := hn es[i] (List.getElem_mem hlt)
  simp [hlt, this]

theorem Wp.dictFind_new {d : Addr} {es : List DictEntry} {n : Nat} {k : Int} {t : Tok} {h : Int} {Q : Option Nat → Pos → Shared → Nat → Prop} (ho : s.heap.get? d = some (dO es n)) (hn : ∀ e ∈ es, e.hash ≠ h) (hq : Q none pos s (m + 1)) :
    Wp p w n₀ ann c st (dictFind d (.int k t) h) Q pos s m := by
  unfold dictFind
  refine .holding (.bind (.dictEntries ho ?_))
  dsimp only
  rw [places_nil hn]
  rw [if_pos (by simp [carriedByValue])]
  unfold dictWalkPlain
  exact .bind (.pure (.pure hq))

theorem Wp.updateDictKeys {base : Heap} {l : List Obj} {i : Nat} {es : List DictEntry} {n : Nat} {e : DictEntry} {part : Option Value} {Q : Unit → Pos → Shared → Nat → Prop} (hs : s.heap = hp base l) (hl : l[i]? = some (dO es n)) (hb : n₀ ≤ base.objs.size) (hz : es.length ≤ 10000)
    (h : Q () pos { s with heap := hp base (l.set i (dO (es ++ [e]) (n + 1))) } (m + 1 + 1 + 1)) : Wp p w n₀ ann c st (updateDictKeys (base.objs.size + i) (·.push e) part) Q pos s m := by
  have hi : i < l.length := by
    rcases Nat.lt_or_ge i l.length with q | q
    · exact q
    · rw [List.getElem?_eq_none q] at hl; cases hl
  have ho : s.heap.get? (base.objs.size + i) = some (dO es n) := by rw [hs]; exact hp_get hl
  unfold PySem.updateDictKeys loadPart updatePart lookBehind
  refine .bind (.loadN ho (Wp.pure ?_))
  dsimp only
  have hup : s.heap.update (base.objs.size + i) (Obj.mapDictKeys (·.push e)) = hp base (l.set i (dO (es ++ [e]) (n + 1))) := by
    rw [hs, hp_update _ hi]
    congr 1
    apply List.ext_getElem?
    intro j
    rw [List.getElem?_modify, List.getElem?_set]
    by_cases q : i = j
    · subst q
      rw [hl]
      simp [hi, Obj.mapDictKeys]
    · simp [q]
  refine .bind (.updateN (by rw [ho]; rfl) (by omega) (Wp.pure ?_))
  rw [hup]
  have ho2 : (hp base (l.set i (dO (es ++ [e]) (n + 1)))).get? (base.objs.size + i) = some (dO (es ++ [e]) (n + 1)) := hp_get (by simp [hi])
  refine .bind (.loadN ho2 (Wp.pure ?_))
  have hpl : (dO (es ++ [e]) (n + 1)).data.pastItsLine = none := by
    show (if (es ++ [e]).toArray.size > sizeLine + 1 then some "dict:memory" else none) = none
    rw [if_neg]
    have : sizeLine = 2 ^ 24 := rfl
    simp; omega
  rw [hpl]
  exact Wp.pure h
end
end Mine

namespace Mine
abbrev kvE (k : Int) (x : Str) (t u : Tok) : DictEntry := ⟨hashInt k, .int k t, .str x u⟩
/-- the entries that a long run (its hashes drawn between) makes; a short run's -/
def entsL : Nat → List (Int × Str) → List DictEntry
  | _, [] => []
  | t, (k, x) :: r => kvE k x t (t + 1) :: entsL (t + 3) r
def entsS : Nat → List (Int × Str) → List DictEntry
  | _, [] => []
  | t, (k, x) :: r => kvE k x t (t + 1) :: entsS (t + 2) r
theorem entsL_len : ∀ (t : Nat) (r : List (Int × Str)), (entsL t r).length = r.length
  | _, [] => rfl
  | t, (k, x) :: r => by simp [entsL, entsL_len (t + 3) r]
theorem entsS_len : ∀ (t : Nat) (r : List (Int × Str)), (entsS t r).length = r.length
  | _, [] => rfl
  | t, (k, x) :: r => by simp [entsS, entsS_len (t + 2) r]

section
variable {p : Program} {w : World} {n₀ : Nat} {ann : Option Value} {c : Code} {fr : Frame} {st : List Frame} {pos : Pos} {s : Shared} {m : Nat}

theorem Wp.dictSet_new {base : Heap} {l : List Obj} {i : Nat} {es : List DictEntry} {n : Nat} {k : Int} {t : Tok} {v : Value} {Q : Unit → Pos → Shared → Nat → Prop} (hs : s.heap = hp base l) (hl : l[i]? = some (dO es n)) (hb : n₀ ≤ base.objs.size) (hz : es.length ≤ 10000)
    (hn : ∀ e ∈ es, e.hash ≠ hashInt k) (h : ∀ j, j ≤ m + 20 → Q () pos { s with heap := hp base (l.set i (dO (es ++ [⟨hashInt k, .int k t, v⟩]) (n + 1))), toks := s.toks + 1 } j) :
    Wp p w n₀ ann c (fr :: st) (dictSet (base.objs.size + i) (.int k t) v) Q pos s m := by
  unfold dictSet
  refine .holding (.bind (.pyHash_int fun j hj => ?_))
  unfold dictSetHashed
  refine .holding (.bind (.dictFind_new (s := { s with toks := s.toks + 1 }) (es := es) (n := n) (by rw [show ({ s with toks := s.toks + 1 } : Shared).heap = hp base l from hs]; exact hp_get hl) hn ?_))
  dsimp only
  unfold rule
  refine .bind (.ruleN (Wp.pure ?_))
  exact .updateDictKeys (s := { s with toks := s.toks + 1 }) hs hl hb hz (h _ (by omega))

theorem Wp.dictPut_new {base : Heap} {l : List Obj} {i : Nat} {es : List DictEntry} {n : Nat} {k : Int} {t : Tok} {v : Value} {Q : Unit → Pos → Shared → Nat → Prop} (hs : s.heap = hp base l) (hl : l[i]? = some (dO es n)) (hb : n₀ ≤ base.objs.size) (hz : es.length ≤ 10000)
    (hn : ∀ e ∈ es, e.hash ≠ hashInt k) (h : ∀ j, j ≤ m + 10 → Q () pos { s with heap := hp base (l.set i (dO (es ++ [⟨hashInt k, .int k t, v⟩]) (n + 1))) } j) :
    Wp p w n₀ ann c st (dictPut (base.objs.size + i) (hashInt k) (.int k t) v) Q pos s m := by
  unfold dictPut
  refine .bind (.dictFind_new (es := es) (n := n) (by rw [hs]; exact hp_get hl) hn ?_)
  dsimp only
  exact .updateDictKeys hs hl hb hz (h _ (by omega))

/-- a tree that hands back the text and moves one token on -/
def Const1 (t : Sem Value) (f : Tok → Value) : Prop := t = .fresh fun u => .pure (f u)
/-- a tree that does so and then stands elsewhere -/
def Const1A (t : Sem Value) (f : Tok → Value) : Prop := ∃ q, t = .fresh fun u => .at q fun _ => .pure (f u)

inductive Pairs2 : List (Sem Value × Sem Value) → List (Int × Str) → Prop
  | nil : Pairs2 [] []
  | cons {a b : Sem Value} {k : Int} {x : Str} {r : List (Sem Value × Sem Value)} {q : List (Int × Str)} : Const1 a (.int k) → Const1A b (.str x) → Pairs2 r q → Pairs2 ((a, b) :: r) ((k, x) :: q)
theorem Pairs2.length {r : List (Sem Value × Sem Value)} {q : List (Int × Str)} (h : Pairs2 r q) : r.length = q.length := by
  induction h with
  | nil => rfl
  | cons _ _ _ ih => simp [ih]
theorem Pairs2.append {r r' : List (Sem Value × Sem Value)} {q q' : List (Int × Str)} (h : Pairs2 r q) (h' : Pairs2 r' q') : Pairs2 (r ++ r') (q ++ q') := by
  induction h with
  | nil => exact h'
  | cons a b _ ih => exact .cons a b ih

theorem Wp.const1 {t : Sem Value} {f : Tok → Value} {Q : Value → Pos → Shared → Nat → Prop} (h : Const1 t f) (k : Q (f s.toks) pos { s with toks := s.toks + 1 } (m + 1)) : Wp p w n₀ ann c st t Q pos s m := by
  rw [h]; exact .freshN (.pure k)
theorem Wp.const1A {t : Sem Value} {f : Tok → Value} {Q : Value → Pos → Shared → Nat → Prop} (h : Const1A t f) (k : ∀ q, Q (f s.toks) q { s with toks := s.toks + 1 } (m + 1 + 1)) : Wp p w n₀ ann c st t Q pos s m := by
  obtain ⟨q, h⟩ := h
  rw [h]; exact .freshN (.atN (.pure (k q)))

/-- all the keys' hashes differ -/
def Apart (es : List DictEntry) : List (Int × Str) → Prop
  | [] => True
  | (k, _) :: r => (∀ e ∈ es, e.hash ≠ hashInt k) ∧ (∀ q ∈ r, hashInt q.1 ≠ hashInt k) ∧ Apart es r
theorem Apart.push {es : List DictEntry} {e : DictEntry} : ∀ {r : List (Int × Str)}, Apart es r → (∀ q ∈ r, hashInt q.1 ≠ e.hash) → Apart (es ++ [e]) r
  | [], _, _ => trivial
  | (k, x) :: r, ⟨h1, h2, h3⟩, h => ⟨fun e' he' => by
      rcases List.mem_append.mp he' with q | q
      · exact h1 e' q
      · rw [List.mem_singleton.mp q]; exact (h (k, x) (.head _)).symm, h2, h3.push fun q hq => h q (.tail _ hq)⟩
theorem Apart.next {es : List DictEntry} {k : Int} {x : Str} {t u : Tok} {r : List (Int × Str)} (h : Apart es ((k, x) :: r)) : Apart (es ++ [kvE k x t u]) r := h.2.2.push h.2.1

theorem set_last (l : List Obj) (o o' : Obj) : (l ++ [o]).set l.length o' = l ++ [o'] := by simp
theorem get_last (l : List Obj) (o : Obj) : (l ++ [o])[l.length]? = some o := by simp

/-- the long run's loop -/
theorem wpLongLoop {base : Heap} {l : List Obj} : ∀ {prs : List (Sem Value × Sem Value)} {kv : List (Int × Str)} (_ : Pairs2 prs kv) {es : List DictEntry} {n : Nat} {pos : Pos} {s : Shared} {m : Nat} {Q : PUnit → Pos → Shared → Nat → Prop}
    (_ : s.heap = hp base (l ++ [dO es n])) (_ : n₀ ≤ base.objs.size) (_ : es.length + kv.length ≤ 10000) (_ : Apart es kv)
    (_ : ∀ q j, j ≤ m + 30 * kv.length → Q ⟨⟩ q { s with heap := hp base (l ++ [dO (es ++ entsL s.toks kv) (n + kv.length)]), toks := s.toks + 3 * kv.length } j),
    Wp p w n₀ ann c (fr :: st) (forIn prs PUnit.unit fun x _ => do
        let kv ← x.1
        let vv ← holding [kv] x.2
        holding [kv, vv] (dictSet (base.objs.size + l.length) kv vv)
        pure (ForInStep.yield PUnit.unit)) Q pos s m
  | [], _, .nil, es, n, pos, s, m, Q, hs, hb, hz, ha, h => by
    rw [List.forIn_nil]
    refine .pure ?_
    have := h pos m (by omega)
    simp only [entsL, List.append_nil, List.length_nil, Nat.add_zero, Nat.mul_zero] at this
    rw [← hs] at this
    exact this
  | _, _, .cons (a := a) (b := b) (k := k) (x := x) (r := r) (q := q) h1 h2 h3, es, n, pos, s, m, Q, hs, hb, hz, ha, h => by
    rw [List.forIn_cons]
    refine .bind (.bind (.const1 h1 ?_))
    refine .bind (.holding (.const1A h2 fun pq => ?_))
    refine .bind (.holding ?_)
    refine .dictSet_new (s := { s with toks := s.toks + 2 }) (l := l ++ [dO es n]) (es := es) (n := n) (by exact hs) (get_last _ _) hb (by simp at hz; omega) ha.1 fun j0 hj0 => ?_
    rw [set_last]
    refine .pure ?_
    dsimp only
    refine wpLongLoop h3 (es := es ++ [kvE k x s.toks (s.toks + 1)]) (n := n + 1) (s := { s with heap := hp base (l ++ [dO (es ++ [kvE k x s.toks (s.toks + 1)]) (n + 1)]), toks := s.toks + 2 + 1 }) rfl hb (by simp at hz ⊢; omega) ha.next fun q' j hj => ?_
    have := h q' j (by simp only [List.length_cons]; omega)
    simp only [entsL, List.length_cons] at this
    simp only [List.append_assoc, List.singleton_append]
    rw [show n + 1 + q.length = n + (q.length + 1) by omega, show s.toks + 2 + 1 + 3 * q.length = s.toks + 3 * (q.length + 1) by omega]
    exact this
end
end Mine

namespace Mine
section
variable {p : Program} {w : World} {n₀ : Nat} {ann : Option Value} {c : Code} {fr : Frame} {st : List Frame} {pos : Pos} {s : Shared} {m : Nat}

theorem wpSubLong {base : Heap} {l : List Obj} {prs : List (Sem Value × Sem Value)} {kv : List (Int × Str)} {Q : Addr → Pos → Shared → Nat → Prop} (hP : Pairs2 prs kv) (hlen : ¬ kv.length ≤ 15) (hs : s.heap = hp base l) (hb : n₀ ≤ base.objs.size) (hz : kv.length ≤ 10000) (ha : Apart [] kv)
    (h : ∀ q j, j ≤ m + 30 * kv.length + 10 → Q (base.objs.size + l.length) q { s with heap := hp base (l ++ [dO (entsL s.toks kv) kv.length]), toks := s.toks + 3 * kv.length } j) :
    Wp p w n₀ ann c (fr :: st) (subDict prs) Q pos s m := by
  unfold subDict alloc
  refine .bind (.allocN ?_)
  refine Wp.pure ?_
  have hsz : s.heap.objs.size = base.objs.size + l.length := by rw [hs, hp_size]
  have hpu : s.heap.push { cls := .type "dict", data := .dict #[] } = hp base (l ++ [dO [] 0]) := by rw [hs, hp_push]
  rw [hsz, hpu]
  refine .bind (.holding ?_)
  rw [if_neg (by rw [hP.length]; exact hlen)]
  unfold rule
  refine .bind (.ruleN (Wp.pure ?_))
  refine .bind (wpLongLoop (s := { s with heap := hp base (l ++ [dO [] 0]) }) hP rfl hb (by simpa using hz) ha fun q j hj => ?_)
  refine Wp.pure ?_
  refine Wp.pure ?_
  have := h q j (by omega)
  simpa using this

theorem wpEvalPairs {base : Heap} : ∀ {prs : List (Sem Value × Sem Value)} {kv : List (Int × Str)} (_ : Pairs2 prs kv) {pos : Pos} {s : Shared} {m : Nat} {Q : List (Value × Value) → Pos → Shared → Nat → Prop}
    (_ : ∀ q j, j ≤ m + 3 * kv.length → Q ((entsS s.toks kv).map fun e => (e.key, e.val)) q { s with toks := s.toks + 2 * kv.length } j), Wp p w n₀ ann c st (evalPairs prs) Q pos s m
  | [], _, .nil, pos, s, m, Q, h => by
    unfold evalPairs
    exact Wp.pure (h pos m (by omega))
  | _, _, .cons (a := a) (b := b) (k := k) (x := x) (r := r) (q := q) h1 h2 h3, pos, s, m, Q, h => by
    unfold evalPairs
    refine .bind (.const1 h1 ?_)
    refine .bind (.holding (.const1A h2 fun pq => ?_))
    refine .bind (.holding (wpEvalPairs (base := base) h3 (s := { s with toks := s.toks + 2 }) fun q' j hj => ?_))
    refine Wp.pure ?_
    have := h q' j (by simp only [List.length_cons]; omega)
    simp only [entsS, List.map_cons, List.length_cons] at this
    rw [show s.toks + 2 + 2 * q.length = s.toks + 2 * (q.length + 1) by omega]
    exact this

/-- the short run's loop: over the pairs evaluated -/
theorem wpShortLoop {base : Heap} {l : List Obj} : ∀ {kv : List (Int × Str)} {t : Nat} {es : List DictEntry} {n : Nat} {pos : Pos} {s : Shared} {m : Nat} {Q : PUnit → Pos → Shared → Nat → Prop}
    (_ : s.heap = hp base (l ++ [dO es n])) (_ : n₀ ≤ base.objs.size) (_ : es.length + kv.length ≤ 10000) (_ : Apart es kv)
    (_ : ∀ j, j ≤ m + 20 * kv.length → Q ⟨⟩ pos { s with heap := hp base (l ++ [dO (es ++ entsS t kv) (n + kv.length)]), toks := s.toks + kv.length } j),
    Wp p w n₀ ann c (fr :: st) (forIn ((entsS t kv).map fun e => (e.key, e.val)) PUnit.unit fun x _ => do
        dictSet (base.objs.size + l.length) x.1 x.2
        pure (ForInStep.yield PUnit.unit)) Q pos s m
  | [], t, es, n, pos, s, m, Q, hs, hb, hz, ha, h => by
    simp only [entsS, List.map_nil, List.forIn_nil]
    refine Wp.pure ?_
    replace h := h m (by omega)
    simp only [entsS, List.append_nil, List.length_nil, Nat.add_zero] at h
    rw [← hs] at h
    exact h
  | (k, x) :: q, t, es, n, pos, s, m, Q, hs, hb, hz, ha, h => by
    simp only [entsS, List.map_cons, List.forIn_cons]
    refine .bind (.bind ?_)
    refine .dictSet_new (l := l ++ [dO es n]) (es := es) (n := n) hs (get_last _ _) hb (by simp at hz; omega) ha.1 fun j0 hj0 => ?_
    rw [set_last]
    refine Wp.pure ?_
    dsimp only
    refine wpShortLoop (kv := q) (t := t + 2) (es := es ++ [kvE k x t (t + 1)]) (n := n + 1) (s := { s with heap := hp base (l ++ [dO (es ++ [kvE k x t (t + 1)]) (n + 1)]), toks := s.toks + 1 }) rfl hb (by simp at hz ⊢; omega) ha.next fun j hj => ?_
    replace h := h j (by simp only [List.length_cons]; omega)
    simp only [entsS, List.length_cons] at h
    simp only [List.append_assoc, List.singleton_append]
    rw [show n + 1 + q.length = n + (q.length + 1) by omega, show s.toks + 1 + q.length = s.toks + (q.length + 1) by omega]
    exact h

theorem wpSubShort {base : Heap} {l : List Obj} {prs : List (Sem Value × Sem Value)} {kv : List (Int × Str)} {Q : Addr → Pos → Shared → Nat → Prop} (hP : Pairs2 prs kv) (hlen : kv.length ≤ 15) (hs : s.heap = hp base l) (hb : n₀ ≤ base.objs.size) (ha : Apart [] kv)
    (h : ∀ q j, j ≤ m + 30 * kv.length + 10 → Q (base.objs.size + l.length) q { s with heap := hp base (l ++ [dO (entsS s.toks kv) kv.length]), toks := s.toks + 3 * kv.length } j) :
    Wp p w n₀ ann c (fr :: st) (subDict prs) Q pos s m := by
  unfold subDict alloc
  refine .bind (.allocN ?_)
  refine Wp.pure ?_
  have hsz : s.heap.objs.size = base.objs.size + l.length := by rw [hs, hp_size]
  have hpu : s.heap.push { cls := .type "dict", data := .dict #[] } = hp base (l ++ [dO [] 0]) := by rw [hs, hp_push]
  rw [hsz, hpu]
  refine .bind (.holding ?_)
  rw [if_pos (by rw [hP.length]; exact hlen)]
  refine .bind (wpEvalPairs (base := base) (s := { s with heap := hp base (l ++ [dO [] 0]) }) hP fun q j0 hj0 => ?_)
  refine .holding ?_
  refine .bind (wpShortLoop (t := s.toks) (s := { s with heap := hp base (l ++ [dO [] 0]), toks := s.toks + 2 * kv.length }) rfl hb (by simp; omega) ha fun j hj => ?_)
  refine Wp.pure ?_
  refine Wp.pure ?_
  have := h q j (by omega)
  simp only [List.nil_append, Nat.zero_add]
  rw [show s.toks + 2 * kv.length + kv.length = s.toks + 3 * kv.length by omega]
  exact this
end
end Mine

namespace Mine
theorem dict_sub : isSubtype (.type "dict") (.type "dict") = (pure true : Sem Bool) := by kernel_rfl
theorem dict_iter : typeLookup (.type "dict") "__iter__" = (pure (some (.builtin "dict.__iter__")) : Sem (Option Value)) := by kernel_rfl
/-- an entry under an int, its hash that int's -/
def IntE (e : DictEntry) : Prop := ∃ k t, e.key = .int k t ∧ e.hash = hashInt k
theorem entsL_int : ∀ (t : Nat) (r : List (Int × Str)), ∀ e ∈ entsL t r, IntE e
  | _, [], _, h => nomatch h
  | t, (k, x) :: r, e, h => by
    rcases List.mem_cons.mp h with rfl | h
    · exact ⟨k, t, rfl, rfl⟩
    · exact entsL_int _ r e h
theorem entsS_int : ∀ (t : Nat) (r : List (Int × Str)), ∀ e ∈ entsS t r, IntE e
  | _, [], _, h => nomatch h
  | t, (k, x) :: r, e, h => by
    rcases List.mem_cons.mp h with rfl | h
    · exact ⟨k, t, rfl, rfl⟩
    · exact entsS_int _ r e h
/-- no hash twice, none of the first list's -/
def ApartE (es : List DictEntry) : List DictEntry → Prop
  | [] => True
  | e :: r => (∀ x ∈ es, x.hash ≠ e.hash) ∧ (∀ x ∈ r, x.hash ≠ e.hash) ∧ ApartE es r
theorem ApartE.push {es : List DictEntry} {e : DictEntry} : ∀ {r : List DictEntry}, ApartE es r → (∀ x ∈ r, x.hash ≠ e.hash) → ApartE (es ++ [e]) r
  | [], _, _ => trivial
  | y :: r, ⟨h1, h2, h3⟩, h => ⟨fun x hx => by
      rcases List.mem_append.mp hx with q | q
      · exact h1 x q
      · rw [List.mem_singleton.mp q]; exact (h y (.head _)).symm, h2, h3.push fun x hx => h x (.tail _ hx)⟩
section
variable {p : Program} {w : World} {n₀ : Nat} {ann : Option Value} {c : Code} {fr : Frame} {st : List Frame} {pos : Pos} {s : Shared} {m : Nat}

theorem mergeLoop {base : Heap} {subs : List Obj} {ents : List DictEntry} {m : Nat} : ∀ {rest done : List DictEntry} (_ : ents = done ++ rest) {es : List DictEntry} {n : Nat} {s : Shared} {m' : Nat} {Q : PUnit → Pos → Shared → Nat → Prop}
    (_ : s.heap = hp base (dO es n :: (subs ++ [dO ents m]))) (_ : n₀ ≤ base.objs.size) (_ : es.length + rest.length ≤ 10000) (_ : ApartE es rest) (_ : ∀ e ∈ rest, IntE e)
    (_ : ∀ j, j ≤ m' + 20 * rest.length → Q ⟨⟩ pos { s with heap := hp base (dO (es ++ rest) (n + rest.length) :: (subs ++ [dO ents m])) } j),
    Wp p w n₀ ann c st (forIn (List.range' done.length rest.length) PUnit.unit fun i _ => do
        let es ← dictEntries (base.objs.size + (1 + subs.length))
        match es[i]? with
        | some e => do
          holding [e.key, e.val] (dictPut (base.objs.size + 0) e.hash e.key e.val)
          let ep ← dictEpoch (base.objs.size + (1 + subs.length))
          if (ep != m) = true then do
            unsupported "dict.changed-during-merge"
            pure (ForInStep.yield PUnit.unit)
          else pure (ForInStep.yield PUnit.unit)
        | _ => do
          unsupported "dict.changed-during-merge"
          pure (ForInStep.yield PUnit.unit)) Q pos s m'
  | [], done, he, es, n, s, m', Q, hs, hb, hz, ha, hi, h => by
    simp only [List.length_nil, List.range'_zero, List.forIn_nil]
    refine Wp.pure ?_
    replace h := h m' (by omega)
    simp only [List.append_nil, List.length_nil, Nat.add_zero] at h
    rw [← hs] at h
    exact h
  | e :: rest, done, he, es, n, s, m', Q, hs, hb, hz, ha, hi, h => by
    simp only [List.length_cons, List.range'_succ, List.forIn_cons]
    have hl : ∀ o : Obj, (o :: (subs ++ [dO ents m]))[1 + subs.length]? = some (dO ents m) := fun o => by
      rw [Nat.add_comm]; simp
    have ho : s.heap.get? (base.objs.size + (1 + subs.length)) = some (dO ents m) := by rw [hs]; exact hp_get (hl _)
    refine .bind (.bind (.dictEntries ho ?_))
    have hx : ents.toArray[done.length]? = some e := by rw [he]; simp
    rw [hx]
    dsimp only
    obtain ⟨k, t, hk, hh⟩ := hi e (.head _)
    refine .bind (.holding ?_)
    rw [hk, hh]
    refine .dictPut_new (l := dO es n :: (subs ++ [dO ents m])) (i := 0) (es := es) (n := n) hs rfl hb (by simp at hz; omega) (by rw [← hh]; exact ha.1) fun j0 hj0 => ?_
    have heq : (⟨hashInt k, .int k t, e.val⟩ : DictEntry) = e := by rw [← hk, ← hh]
    rw [heq]
    simp only [List.set_cons_zero]
    refine .bind (.dictEpoch (es := ents) (n := m) (by show (hp base _).get? _ = _; exact hp_get (hl _)) ?_)
    rw [if_neg (by simp)]
    refine Wp.pure ?_
    dsimp only
    have := mergeLoop (rest := rest) (done := done ++ [e]) (by rw [he]; simp) (es := es ++ [e]) (n := n + 1) (s := { s with heap := hp base (dO (es ++ [e]) (n + 1) :: (subs ++ [dO ents m])) }) (Q := Q) rfl hb (by simp at hz ⊢; omega) (ha.2.2.push ha.2.1) (fun x hx => hi x (.tail _ hx)) (m' := j0 + 1) (by
      intro j hj
      replace h := h j (by simp only [List.length_cons]; omega)
      simp only [List.append_assoc, List.singleton_append]
      rw [show n + 1 + rest.length = n + (rest.length + 1) by omega]
      exact h)
    rw [List.length_append, List.length_singleton] at this
    exact this

theorem wpMerge {base : Heap} {subs : List Obj} {ents : List DictEntry} {es : List DictEntry} {n m : Nat} {m' : Nat} {Q : Unit → Pos → Shared → Nat → Prop} (hs : s.heap = hp base (dO es n :: (subs ++ [dO ents m]))) (hb : n₀ ≤ base.objs.size) (hsm : base.objs.size + (1 + subs.length) ≠ sysModules)
    (hz : es.length + ents.length ≤ 10000) (hne : es ≠ []) (ha : ApartE es ents) (hi : ∀ e ∈ ents, IntE e) (h : ∀ j, j ≤ m' + 20 * ents.length + 10 → Q () pos { s with heap := hp base (dO (es ++ ents) (n + ents.length) :: (subs ++ [dO ents m])) } j) :
    Wp p w n₀ ann c st (mergeMapping (base.objs.size + 0) (.ref (base.objs.size + (1 + subs.length))) false) Q pos s m' := by
  have hl : ∀ o : Obj, (o :: (subs ++ [dO ents m]))[1 + subs.length]? = some (dO ents m) := fun o => by
    rw [Nat.add_comm]; simp
  have ho : s.heap.get? (base.objs.size + (1 + subs.length)) = some (dO ents m) := by rw [hs]; exact hp_get (hl _)
  have hd : s.heap.get? (base.objs.size + 0) = some (dO es n) := by rw [hs]; exact hp_get rfl
  unfold mergeMapping
  refine .bind (.bind ?_)
  unfold typeOf loadPart
  refine .bind (.loadN ho ?_)
  refine Wp.pure ?_
  refine Wp.pure ?_
  show Wp p w n₀ ann c st (isSubtype (.type "dict") (.type "dict")) _ _ _ _
  rw [dict_sub]
  refine Wp.pure ?_
  rw [if_pos rfl]
  refine .bind ?_
  unfold specialOf typeOf loadPart
  refine .bind (.bind (.loadN ho ?_))
  refine Wp.pure ?_
  refine Wp.pure ?_
  show Wp p w n₀ ann c st (typeLookup (.type "dict") "__iter__") _ _ _ _
  rw [dict_iter]
  refine Wp.pure ?_
  refine .bind (Wp.pure ?_)
  rw [show (some (Value.builtin "dict.__iter__") == some (Value.builtin "dict.__iter__")) = true by decide +kernel]
  dsimp only
  rw [if_neg (by simpa using hsm)]
  refine .bind (.dictEntries hd ?_)
  rw [if_neg (by simpa using hne)]
  refine .bind (.dictEntries ho ?_)
  refine .bind (.dictEpoch ho ?_)
  rw [List.range_eq_range', List.size_toArray]
  refine .bind (mergeLoop (rest := ents) (done := []) rfl hs hb hz ha hi fun j hj => ?_)
  exact Wp.pure (h _ (by omega))
end
end Mine

namespace Mine
abbrev PR := Sem Value × Sem Value
abbrev asItem (x : PR) : Option (Sem Value) × Sem Value := (some x.1, x.2)
def outL : List (List (Int × Str)) → Nat → List DictEntry
  | [], _ => []
  | q :: r, t => entsL t q ++ outL r (t + 3 * q.length)
def subsL : List (List (Int × Str)) → Nat → List Obj
  | [], _ => []
  | q :: r, t => dO (entsL t q) q.length :: subsL r (t + 3 * q.length)
def total : List (List (Int × Str)) → Nat
  | [] => 0
  | q :: r => q.length + total r

theorem Apart.toE {es : List DictEntry} : ∀ {r : List (Int × Str)} {l : List DictEntry}, l.map (·.hash) = r.map (fun q => hashInt q.1) → Apart es r → ApartE es l
  | [], [], _, _ => trivial
  | (k, x) :: r, e :: l, hm, ⟨h1, h2, h3⟩ => by
    simp only [List.map_cons, List.cons.injEq] at hm
    refine ⟨fun y hy => by rw [hm.1]; exact h1 y hy, fun y hy => ?_, h3.toE hm.2⟩
    rw [hm.1]
    have : y.hash ∈ l.map (·.hash) := List.mem_map_of_mem hy
    rw [hm.2] at this
    obtain ⟨q, hq, e'⟩ := List.mem_map.mp this
    rw [← e']; exact h2 q hq
  | [], _ :: _, hm, _ => by simp at hm
  | _ :: _, [], hm, _ => by simp at hm
theorem entsL_hash : ∀ (t : Nat) (r : List (Int × Str)), (entsL t r).map (·.hash) = r.map fun q => hashInt q.1
  | _, [] => rfl
  | t, (k, x) :: r => by simp [entsL, entsL_hash (t + 3) r]
theorem entsS_hash : ∀ (t : Nat) (r : List (Int × Str)), (entsS t r).map (·.hash) = r.map fun q => hashInt q.1
  | _, [] => rfl
  | t, (k, x) :: r => by simp [entsS, entsS_hash (t + 2) r]

section
variable {p : Program} {w : World} {n₀ : Nat} {ann : Option Value} {c : Code} {fr : Frame} {st : List Frame} {pos : Pos} {s : Shared} {m : Nat}

theorem accLoop {F : List PR → Option Addr → Sem (Option Addr)} {B : Option (Sem Value) × Sem Value → Option Addr × List PR → Sem (ForInStep (Option Addr × List PR))}
    (hB : ∀ k v main run, B (some k, v) (main, run) = if ((run ++ [(k, v)]).length == 17) = true then (F (run ++ [(k, v)]) main >>= fun m => pure (ForInStep.yield (m, []))) else pure (ForInStep.yield (main, run ++ [(k, v)])))
    {rest : List (Option (Sem Value) × Sem Value)} {main : Option Addr} {Q : Option Addr × List PR → Pos → Shared → Nat → Prop} : ∀ (prs : List PR) (run : List PR) (_ : run.length + prs.length = 17) (_ : prs ≠ [])
    (_ : Wp p w n₀ ann c st (F (run ++ prs) main) (fun m pos' s' n => Wp p w n₀ ann c st (forIn rest (m, []) B) Q pos' s' n) pos s m),
    Wp p w n₀ ann c st (forIn (prs.map asItem ++ rest) (main, run) B) Q pos s m
  | [], _, _, hne, _ => absurd rfl hne
  | [x], run, hl, _, h => by
    simp only [List.map_cons, List.map_nil, List.cons_append, List.nil_append, List.forIn_cons]
    refine .bind ?_
    rw [hB, if_pos (by simpa using hl)]
    refine .bind ?_
    exact h.mono fun m p' s' n z => Wp.pure z
  | x :: y :: r, run, hl, _, h => by
    simp only [List.map_cons, List.cons_append, List.forIn_cons]
    refine .bind ?_
    rw [hB, if_neg (by simp at hl ⊢; omega)]
    refine Wp.pure ?_
    dsimp only
    have := accLoop hB (rest := rest) (main := main) (Q := Q) (y :: r) (run ++ [x]) (by simp at hl ⊢; omega) (by simp) (by simpa using h)
    simpa using this
theorem lastLoop {F : List PR → Option Addr → Sem (Option Addr)} {B : Option (Sem Value) × Sem Value → Option Addr × List PR → Sem (ForInStep (Option Addr × List PR))}
    (hB : ∀ k v main run, B (some k, v) (main, run) = if ((run ++ [(k, v)]).length == 17) = true then (F (run ++ [(k, v)]) main >>= fun m => pure (ForInStep.yield (m, []))) else pure (ForInStep.yield (main, run ++ [(k, v)])))
    {main : Option Addr} {Q : Option Addr × List PR → Pos → Shared → Nat → Prop} : ∀ (prs : List PR) (run : List PR) (_ : run.length + prs.length < 17)
    (_ : Q (main, run ++ prs) pos s m), Wp p w n₀ ann c st (forIn (prs.map asItem) (main, run) B) Q pos s m
  | [], run, _, h => by
    simp only [List.map_nil, List.forIn_nil]
    exact Wp.pure (by simpa using h)
  | x :: r, run, hl, h => by
    simp only [List.map_cons, List.forIn_cons]
    refine .bind ?_
    rw [hB, if_neg (by simp at hl ⊢; omega)]
    refine Wp.pure ?_
    dsimp only
    exact lastLoop hB r (run ++ [x]) (by simp at hl ⊢; omega) (by simpa using h)

/-- what a flush does: F's tree -/
structure IsFlush (F : List PR → Option Addr → Sem (Option Addr)) : Prop where
  first : ∀ run, run ≠ [] → F run none = (do let d ← subDict run; pure (some d))
  next : ∀ run d, run ≠ [] → ∃ g : Addr → Value → Sem Unit, F run (some d) = (do let sub ← holding [Value.ref d] (subDict run); (holding [Value.ref d, Value.ref sub] (mergeMapping d (Value.ref sub) false)).onRaise (g sub); pure (some d))

theorem flushFirst {F : List PR → Option Addr → Sem (Option Addr)} (hF : IsFlush F) {base : Heap} {prs : List PR} {kv : List (Int × Str)} {Q : Option Addr → Pos → Shared → Nat → Prop} (hP : Pairs2 prs kv) (hlen : kv.length = 17) (hs : s.heap = hp base []) (hb : n₀ ≤ base.objs.size) (ha : Apart [] kv)
    (h : ∀ q j, j ≤ m + 1000 → Q (some (base.objs.size + 0)) q { s with heap := hp base [dO (entsL s.toks kv) 17], toks := s.toks + 51 } j) : Wp p w n₀ ann c (fr :: st) (F prs none) Q pos s m := by
  rw [hF.first prs (by intro e; rw [e] at hP; cases hP; simp at hlen)]
  refine .bind (wpSubLong (l := []) hP (by omega) hs hb (by omega) ha fun q j hj => ?_)
  refine Wp.pure ?_
  have := h q j (by omega)
  rw [hlen]
  exact this
theorem flushNext {F : List PR → Option Addr → Sem (Option Addr)} (hF : IsFlush F) {base : Heap} {es : List DictEntry} {n : Nat} {subs : List Obj} {prs : List PR} {kv : List (Int × Str)} {Q : Option Addr → Pos → Shared → Nat → Prop} (hP : Pairs2 prs kv) (hlen : kv.length = 17) (hs : s.heap = hp base (dO es n :: subs)) (hb : n₀ ≤ base.objs.size)
    (hsm : base.objs.size + (1 + subs.length) ≠ sysModules) (hz : es.length + 17 ≤ 10000) (hne : es ≠ []) (ha : Apart es kv) (ha0 : Apart [] kv)
    (h : ∀ q j, j ≤ m + 1000 → Q (some (base.objs.size + 0)) q { s with heap := hp base (dO (es ++ entsL s.toks kv) (n + 17) :: (subs ++ [dO (entsL s.toks kv) 17])), toks := s.toks + 51 } j) : Wp p w n₀ ann c (fr :: st) (F prs (some (base.objs.size + 0))) Q pos s m := by
  obtain ⟨g, hg⟩ := hF.next prs (base.objs.size + 0) (by intro e; rw [e] at hP; cases hP; simp at hlen)
  rw [hg]
  refine .bind (.holding (wpSubLong (l := dO es n :: subs) hP (by omega) hs hb (by omega) ha0 fun q j0 hj0 => ?_))
  rw [show (dO es n :: subs).length = 1 + subs.length by simp; omega]
  refine .bind (.onRaise (.holding ?_))
  refine wpMerge (s := { s with heap := hp base (dO es n :: subs ++ [dO (entsL s.toks kv) kv.length]), toks := s.toks + 3 * kv.length }) rfl hb hsm (by rw [entsL_len]; omega) hne (ha.toE (entsL_hash _ _)) (entsL_int _ _) fun j hj => ?_
  refine Wp.pure ?_
  rw [entsL_len] at hj
  have := h q j (by omega)
  rw [entsL_len, hlen]
  exact this
theorem flushLast {F : List PR → Option Addr → Sem (Option Addr)} (hF : IsFlush F) {base : Heap} {es : List DictEntry} {n : Nat} {subs : List Obj} {prs : List PR} {kv : List (Int × Str)} {Q : Option Addr → Pos → Shared → Nat → Prop} (hP : Pairs2 prs kv) (hlen : kv.length ≤ 15) (h0 : kv ≠ []) (hs : s.heap = hp base (dO es n :: subs)) (hb : n₀ ≤ base.objs.size)
    (hsm : base.objs.size + (1 + subs.length) ≠ sysModules) (hz : es.length + kv.length ≤ 10000) (hne : es ≠ []) (ha : Apart es kv) (ha0 : Apart [] kv)
    (h : ∀ q j, j ≤ m + 1000 → Q (some (base.objs.size + 0)) q { s with heap := hp base (dO (es ++ entsS s.toks kv) (n + kv.length) :: (subs ++ [dO (entsS s.toks kv) kv.length])), toks := s.toks + 3 * kv.length } j) : Wp p w n₀ ann c (fr :: st) (F prs (some (base.objs.size + 0))) Q pos s m := by
  obtain ⟨g, hg⟩ := hF.next prs (base.objs.size + 0) (by intro e; rw [e] at hP; cases hP; exact h0 rfl)
  rw [hg]
  refine .bind (.holding (wpSubShort (l := dO es n :: subs) hP hlen hs hb ha0 fun q j0 hj0 => ?_))
  rw [show (dO es n :: subs).length = 1 + subs.length by simp; omega]
  refine .bind (.onRaise (.holding ?_))
  refine wpMerge (s := { s with heap := hp base (dO es n :: subs ++ [dO (entsS s.toks kv) kv.length]), toks := s.toks + 3 * kv.length }) rfl hb hsm (by rw [entsS_len]; omega) hne (ha.toE (entsS_hash _ _)) (entsS_int _ _) fun j hj => ?_
  refine Wp.pure ?_
  rw [entsS_len] at hj
  have := h q j (by omega)
  rw [entsS_len]
  exact this
end
end Mine

namespace Mine
theorem Apart.left {es : List DictEntry} : ∀ {a b : List (Int × Str)}, Apart es (a ++ b) → Apart es a
  | [], _, _ => trivial
  | (k, x) :: a, b, ⟨h1, h2, h3⟩ => ⟨h1, fun q hq => h2 q (List.mem_append_left _ hq), Apart.left h3⟩
theorem Apart.right {es : List DictEntry} : ∀ {a b : List (Int × Str)} (t : Nat), Apart es (a ++ b) → Apart (es ++ entsL t a) b
  | [], b, t, h => by simpa [entsL] using h
  | (k, x) :: a, b, t, h => by
    have h' : Apart (es ++ [kvE k x t (t + 1)]) (a ++ b) := Apart.next (x := x) h
    have := Apart.right (t + 3) h'
    simpa [entsL] using this
theorem Apart.bare {es : List DictEntry} : ∀ {r : List (Int × Str)}, Apart es r → Apart [] r
  | [], _ => trivial
  | (k, x) :: r, ⟨_, h2, h3⟩ => ⟨fun e he => (nomatch he), h2, h3.bare⟩
theorem Apart.drop : ∀ {es : List DictEntry} {a b : List (Int × Str)}, Apart es (a ++ b) → Apart es b
  | _, [], _, h => h
  | es, (k, x) :: a, b, ⟨_, _, h3⟩ => Apart.drop (es := es) (a := a) h3

section
variable {p : Program} {w : World} {n₀ : Nat} {ann : Option Value} {c : Code} {fr : Frame} {st : List Frame} {pos : Pos} {s : Shared} {m : Nat}

theorem midLoop {F : List PR → Option Addr → Sem (Option Addr)} (hF : IsFlush F) {B : Option (Sem Value) × Sem Value → Option Addr × List PR → Sem (ForInStep (Option Addr × List PR))}
    (hB : ∀ k v main run, B (some k, v) (main, run) = if ((run ++ [(k, v)]).length == 17) = true then (F (run ++ [(k, v)]) main >>= fun m => pure (ForInStep.yield (m, []))) else pure (ForInStep.yield (main, run ++ [(k, v)])))
    {base : Heap} (hb : n₀ ≤ base.objs.size) (hsm : sysModules < base.objs.size) {lastP : List PR} {kl : List (Int × Str)} (hl : Pairs2 lastP kl) (hll : kl.length < 17) {Q : Option Addr × List PR → Pos → Shared → Nat → Prop} :
    ∀ (L : List (List PR × List (Int × Str))) (_ : ∀ x ∈ L, Pairs2 x.1 x.2 ∧ x.2.length = 17) {es : List DictEntry} {n : Nat} {subs : List Obj} {pos : Pos} {s : Shared} {m : Nat} (_ : s.heap = hp base (dO es n :: subs))
      (_ : es.length + 17 * L.length ≤ 9000) (_ : es ≠ []) (_ : Apart es ((L.map (·.2)).flatten ++ kl))
      (_ : ∀ q j, j ≤ m + 1000 * L.length → Apart (es ++ outL (L.map (·.2)) s.toks) kl → (outL (L.map (·.2)) s.toks).length = 17 * L.length → Q (some (base.objs.size + 0), lastP) q { s with heap := hp base (dO (es ++ outL (L.map (·.2)) s.toks) (n + 17 * L.length) :: (subs ++ subsL (L.map (·.2)) s.toks)), toks := s.toks + 51 * L.length } j),
      Wp p w n₀ ann c (fr :: st) (forIn ((L.map (·.1)).flatten.map asItem ++ lastP.map asItem) (some (base.objs.size + 0), []) B) Q pos s m
  | [], _, es, n, subs, pos, s, m, hs, hz, hne, ha, h => by
    simp only [List.map_nil, List.flatten_nil, List.nil_append]
    refine lastLoop hB lastP [] (by rw [hl.length]; simpa using hll) ?_
    have := h pos m (by omega) (by simpa [outL] using ha) (by simp [outL])
    simp only [List.map_nil, outL, subsL, List.append_nil, List.length_nil, Nat.mul_zero, Nat.add_zero] at this
    rw [Nat.add_zero] at *
    rw [← hs] at this
    exact this
  | (P, kv) :: L, hL, es, n, subs, pos, s, m, hs, hz, hne, ha, h => by
    obtain ⟨hP, hlen⟩ := hL (P, kv) (.head _)
    simp only at hP hlen
    simp only [List.map_cons, List.flatten_cons, List.map_append, List.append_assoc]
    have ha1 : Apart es (kv ++ ((L.map (·.2)).flatten ++ kl)) := by simpa using ha
    refine accLoop hB P [] (by simpa [hP.length] using hlen) (by intro e; have := hP.length; rw [e] at this; simp at this hlen; omega) ?_
    rw [List.nil_append]
    refine flushNext hF hP hlen hs hb (Nat.ne_of_gt (Nat.lt_of_lt_of_le hsm (Nat.le_add_right _ _))) (by simp at hz; omega) hne ha1.left (ha1.left).bare fun q j0 hj0 => ?_
    refine midLoop hF hB hb hsm hl hll L (fun x hx => hL x (.tail _ hx)) (es := es ++ entsL s.toks kv) (n := n + 17) (subs := subs ++ [dO (entsL s.toks kv) 17]) (s := { s with heap := hp base (dO (es ++ entsL s.toks kv) (n + 17) :: (subs ++ [dO (entsL s.toks kv) 17])), toks := s.toks + 51 }) rfl
      (by simp [entsL_len] at hz ⊢; omega) (by simp [hne]) (ha1.right _) fun q' j hj hA hO => ?_
    have := h q' j (by simp only [List.length_cons]; omega) (by simpa [outL, hlen] using hA) (by simp [outL, entsL_len, hlen] at hO ⊢; omega)
    simp only [List.map_cons, outL, subsL, List.length_cons, hlen] at this
    simp only [List.append_assoc, List.singleton_append]
    rw [show n + 17 + 17 * L.length = n + 17 * (L.length + 1) by omega, show s.toks + 51 + 51 * L.length = s.toks + 51 * (L.length + 1) by omega]
    exact this

theorem wpDisplay {base : Heap} (hb : n₀ ≤ base.objs.size) (hsm : sysModules < base.objs.size) {P0 lastP : List PR} {k0 kl : List (Int × Str)} {L : List (List PR × List (Int × Str))} (h0 : Pairs2 P0 k0) (h0l : k0.length = 17)
    (hL : ∀ x ∈ L, Pairs2 x.1 x.2 ∧ x.2.length = 17) (hl : Pairs2 lastP kl) (hll : kl.length ≤ 15) (hl0 : kl ≠ []) (hz : 17 * L.length ≤ 8000) (hs : s.heap = hp base []) (ha : Apart [] (k0 ++ ((L.map (·.2)).flatten ++ kl)))
    {Q : Value → Pos → Shared → Nat → Prop}
    (h : ∀ q j, j ≤ m + 1000 * L.length + 2000 → Q (.ref (base.objs.size + 0)) q { s with
      heap := hp base (dO (entsL s.toks k0 ++ (outL (L.map (·.2)) (s.toks + 51) ++ entsS (s.toks + 51 + 51 * L.length) kl)) (17 + 17 * L.length + kl.length) :: (subsL (L.map (·.2)) (s.toks + 51) ++ [dO (entsS (s.toks + 51 + 51 * L.length) kl) kl.length])),
      toks := s.toks + 51 + 51 * L.length + 3 * kl.length } j) :
    Wp p w n₀ ann c (fr :: st) (dictDisplay (P0.map asItem ++ ((L.map (·.1)).flatten.map asItem ++ lastP.map asItem))) Q pos s m := by
  unfold dictDisplay
  extract_lets flush main run
  have hF : IsFlush flush := by
    refine ⟨fun run hr => ?_, fun run d hr => ⟨fun _ x => do let _ ← holding [Value.ref d, x] (runValue (Code.builtin "proto.let_go" {})); pure (), ?_⟩⟩
    · show (if run.isEmpty = true then _ else _) = _
      rw [if_neg (by simpa using hr)]
    · show (if run.isEmpty = true then _ else _) = _
      rw [if_neg (by simpa using hr)]
  have hne : entsL s.toks k0 ≠ [] := by
    intro e
    have := entsL_len s.toks k0
    rw [e, h0l] at this
    simp at this
  refine .bind ?_
  refine accLoop (F := flush) (fun k v main run => rfl) P0 [] (by simpa [h0.length] using h0l) (by intro e; have := h0.length; rw [e, h0l] at this; simp at this) ?_
  rw [List.nil_append]
  refine flushFirst hF h0 h0l hs hb ha.left fun q j0 hj0 => ?_
  refine midLoop hF (fun k v main run => rfl) hb hsm hl (by omega) L hL (es := entsL s.toks k0) (n := 17) (subs := []) (s := { s with heap := hp base [dO (entsL s.toks k0) 17], toks := s.toks + 51 }) rfl (by rw [entsL_len]; omega) hne
    (by have := ha.right s.toks; simpa using this) fun q1 j1 hj1 hA hO => ?_
  refine .bind ?_
  have ha2 : Apart (entsL s.toks k0 ++ outL (L.map (·.2)) (s.toks + 51)) kl := hA
  refine flushLast hF hl hll hl0 (s := { s with heap := hp base (dO (entsL s.toks k0 ++ outL (L.map (·.2)) (s.toks + 51)) (17 + 17 * L.length) :: ([] ++ subsL (L.map (·.2)) (s.toks + 51))), toks := s.toks + 51 + 51 * L.length }) rfl hb (Nat.ne_of_gt (Nat.lt_of_lt_of_le hsm (Nat.le_add_right _ _))) (by rw [List.length_append, entsL_len, hO]; omega) (by simp [hne]) ha2 ha2.bare fun q2 j2 hj2 => ?_
  refine Wp.pure ?_
  have := h q2 j2 (by omega)
  simpa using this
end
end Mine

namespace Mine
/-- the pairs of a display of written ints and texts -/
def intOf : Option Expr → Option Int
  | some (.Constant (.int i) _ _) => some i
  | _ => none
def strOf : Expr → Option Str
  | .Constant (.str x) _ _ => some x
  | _ => none
def kvOf : List (Option Expr) → List Expr → Option (List (Int × Str))
  | [], [] => some []
  | k :: ks, v :: vs => match intOf k, strOf v, kvOf ks vs with
    | some i, some x, some r => some ((i, x) :: r)
    | _, _, _ => none
  | _, _ => none
theorem intOf_some {k : Option Expr} {i : Int} (h : intOf k = some i) : ∃ a b, k = some (.Constant (.int i) a b) := by
  unfold intOf at h
  split at h
  · cases h; exact ⟨_, _, rfl⟩
  · cases h
theorem strOf_some {v : Expr} {x : Str} (h : strOf v = some x) : ∃ a b, v = .Constant (.str x) a b := by
  unfold strOf at h
  split at h
  · cases h; exact ⟨_, _, rfl⟩
  · cases h
def prsOf : List (Option Expr) → List Expr → Env → Pos → List PR
  | some e :: ks, v :: vs, env, dp => (eval e env, (do let x ← eval v env; standAt dp; pure x)) :: prsOf ks vs env dp
  | _, _, _, _ => []
theorem prs_of : ∀ {ks : List (Option Expr)} {vs : List Expr} {kv : List (Int × Str)} (env : Env) (dp : Pos), kvOf ks vs = some kv →
    (evalEachOpt ks env).zip ((evalEach vs env).map fun v => do let x ← v; standAt dp; pure x) = (prsOf ks vs env dp).map asItem ∧ Pairs2 (prsOf ks vs env dp) kv
  | [], [], kv, env, dp, h => by
    simp only [kvOf, Option.some.injEq] at h
    subst h
    exact ⟨rfl, .nil⟩
  | k :: ks, v :: vs, kv, env, dp, h => by
    unfold kvOf at h
    split at h
    · rename_i i x r h1 h2 h3
      cases h
      obtain ⟨a, b, rfl⟩ := intOf_some h1
      obtain ⟨a', b', rfl⟩ := strOf_some h2
      obtain ⟨e1, e2⟩ := prs_of (ks := ks) (vs := vs) env dp h3
      refine ⟨?_, .cons rfl ⟨dp, rfl⟩ e2⟩
      simp only [evalEachOpt, evalEach, List.map_cons, List.zip_cons_cons, prsOf]
      rw [e1]
      rfl
    · cases h
  | [], _ :: _, _, _, _, h => by simp [kvOf] at h
  | _ :: _, [], _, _, _, h => by simp [kvOf] at h

/-- the first chunks of 17 and what is left -/
def cut {α : Type} : Nat → List α → List (List α) × List α
  | 0, l => ([], l)
  | n + 1, l => (l.take 17 :: (cut n (l.drop 17)).1, (cut n (l.drop 17)).2)
theorem cut_flat {α : Type} : ∀ (n : Nat) (l : List α), (cut n l).1.flatten ++ (cut n l).2 = l
  | 0, l => rfl
  | n + 1, l => by
    simp only [cut, List.flatten_cons, List.append_assoc]
    rw [cut_flat n, List.take_append_drop]
theorem cut_len {α : Type} : ∀ (n : Nat) (l : List α), (cut n l).1.length = n
  | 0, l => rfl
  | n + 1, l => by simp [cut, cut_len n]
theorem Pairs2.take {r : List PR} {q : List (Int × Str)} (h : Pairs2 r q) : ∀ n, Pairs2 (r.take n) (q.take n) := by
  induction h with
  | nil => intro n; simpa using Pairs2.nil
  | cons a b _ ih =>
    intro n
    cases n with
    | zero => exact .nil
    | succ n => exact .cons a b (ih n)
theorem Pairs2.drop {r : List PR} {q : List (Int × Str)} (h : Pairs2 r q) : ∀ n, Pairs2 (r.drop n) (q.drop n) := by
  induction h with
  | nil => intro n; simpa using Pairs2.nil
  | cons a b h ih =>
    intro n
    cases n with
    | zero => exact .cons a b h
    | succ n => exact ih n
theorem Pairs2.cut : ∀ (n : Nat) {r : List PR} {q : List (Int × Str)}, Pairs2 r q → 17 * n ≤ q.length → (∀ x ∈ ((Mine.cut n r).1.zip (Mine.cut n q).1), Pairs2 x.1 x.2 ∧ x.2.length = 17) ∧ Pairs2 (Mine.cut n r).2 (Mine.cut n q).2 ∧ (Mine.cut n q).2.length = q.length - 17 * n
  | 0, r, q, h, _ => ⟨fun x hx => by simp [Mine.cut] at hx, h, by simp [Mine.cut]⟩
  | n + 1, r, q, h, hl => by
    obtain ⟨h1, h2, h3⟩ := Pairs2.cut n (h.drop 17) (by rw [List.length_drop]; omega)
    refine ⟨fun x hx => ?_, h2, ?_⟩
    · simp only [Mine.cut, List.zip_cons_cons, List.mem_cons] at hx
      rcases hx with rfl | hx
      · exact ⟨h.take 17, by rw [List.length_take]; omega⟩
      · exact h1 x hx
    · simp only [Mine.cut]
      rw [h3, List.length_drop]; omega
theorem zip_fst {α β : Type} : ∀ {a : List α} {b : List β}, a.length = b.length → (a.zip b).map (·.1) = a
  | [], [], _ => rfl
  | x :: a, y :: b, h => by simp at h; simp [zip_fst h]
theorem zip_snd {α β : Type} : ∀ {a : List α} {b : List β}, a.length = b.length → (a.zip b).map (·.2) = b
  | [], [], _ => rfl
  | x :: a, y :: b, h => by simp at h; simp [zip_snd h]

/-- ascending keys of small size -/
def asc : Int → List (Int × Str) → Bool
  | _, [] => true
  | lo, (k, _) :: r => decide (lo < k) && decide (k < 1152921504606846976) && asc k r
theorem hash_small {k : Int} (h0 : 0 ≤ k) (h1 : k < 1152921504606846976) : hashInt k = k := by
  have e : rawHash k = k := by
    unfold rawHash
    have h2 : (k.natAbs : Int) % ((2 ^ 61 - 1 : Nat) : Int) = k := by
      have : (k.natAbs : Int) = k := by omega
      rw [this]
      exact Int.emod_eq_of_lt h0 (by have : ((2 ^ 61 - 1 : Nat) : Int) = 2305843009213693951 := rfl; omega)
    have hn : ¬ k < 0 := by omega
    simp only [h2, if_neg hn]
    rw [if_neg (by simp; omega)]
  unfold hashInt
  rw [e, if_neg (by simp; omega)]
theorem asc_all : ∀ {lo : Int} {r : List (Int × Str)}, asc lo r = true → ∀ q ∈ r, lo < q.1 ∧ q.1 < 1152921504606846976
  | _, [], _, _, hq => nomatch hq
  | lo, (k, x) :: r, h, q, hq => by
    simp only [asc, Bool.and_eq_true, decide_eq_true_eq] at h
    rcases List.mem_cons.mp hq with rfl | hq
    · exact h.1
    · have := asc_all h.2 q hq
      exact ⟨by omega, this.2⟩
theorem apart_asc : ∀ {lo : Int} {r : List (Int × Str)}, -1 ≤ lo → asc lo r = true → Apart [] r
  | _, [], _, _ => trivial
  | lo, (k, x) :: r, h0, h => by
    have hk := asc_all h (k, x) (.head _)
    have h' : asc k r = true := by simp only [asc, Bool.and_eq_true] at h; exact h.2
    refine ⟨fun e he => (nomatch he), fun q hq => ?_, apart_asc (by omega) h'⟩
    have := asc_all h' q hq
    rw [hash_small (by omega) this.2, hash_small (k := k) (by omega) hk.2]
    omega
end Mine

namespace Mine
def dictEs (t N : Nat) (kv : List (Int × Str)) : List DictEntry :=
  entsL t (kv.take 17) ++ (outL (cut N (kv.drop 17)).1 (t + 51) ++ entsS (t + 51 + 51 * N) (cut N (kv.drop 17)).2)
def dictObjs (t N : Nat) (kv : List (Int × Str)) : List Obj :=
  dO (dictEs t N kv) (17 + 17 * N + (cut N (kv.drop 17)).2.length) :: (subsL (cut N (kv.drop 17)).1 (t + 51) ++ [dO (entsS (t + 51 + 51 * N) (cut N (kv.drop 17)).2) (cut N (kv.drop 17)).2.length])
def dictAfter (N : Nat) (kv : List (Int × Str)) (s : Shared) : Shared :=
  { s with heap := hp s.heap (dictObjs s.toks N kv), toks := s.toks + 51 + 51 * N + 3 * (cut N (kv.drop 17)).2.length }
theorem hp_nil (h : Heap) : h = hp h [] := by
  obtain ⟨o, l⟩ := h
  simp [hp]
section
variable {p : Program} {w : World} {n₀ : Nat} {ann : Option Value} {c : Code} {fr : Frame} {st : List Frame} {pos : Pos} {s : Shared} {m : Nat}

theorem Wp.standAt {q : Pos} {Q : Unit → Pos → Shared → Nat → Prop} (h : Q () q s (m + 1)) : Wp p w n₀ ann c st (standAt q) Q pos s m := by
  unfold PySem.standAt
  exact .atN (Wp.pure h)
theorem wpDict {ks : List (Option Expr)} {vs : List Expr} {kv : List (Int × Str)} {env : Env} {dp : Pos} {N r : Nat} (hkv : kvOf ks vs = some kv) (hlen : kv.length = 17 * (N + 1) + r) (hr0 : 1 ≤ r) (hr : r ≤ 15) (hN : N ≤ 400)
    (hasc : asc (-1) kv = true) (hb : n₀ ≤ s.heap.objs.size) (hsm : sysModules < s.heap.objs.size) :
    Wp p w n₀ ann c (fr :: st) (eval (.Dict ks vs dp) env) (fun v q s' n => v = .ref s.heap.objs.size ∧ s' = dictAfter N kv s ∧ n ≤ m + 1000 * N + 2001) pos s m := by
  rw [arm_eval_Dict]
  refine .bind (.standAt ?_)
  obtain ⟨e1, hP⟩ := prs_of env dp hkv
  rw [e1]
  have h17 : (kv.take 17).length = 17 := by rw [List.length_take]; omega
  have hd : (kv.drop 17).length = 17 * N + r := by rw [List.length_drop]; omega
  obtain ⟨h1, h2, h3⟩ := Pairs2.cut N (hP.drop 17) (by rw [hd]; omega)
  have hcl : (cut N ((prsOf ks vs env dp).drop 17)).1.length = (cut N (kv.drop 17)).1.length := by rw [cut_len, cut_len]
  have ep : prsOf ks vs env dp = (prsOf ks vs env dp).take 17 ++ ((((cut N ((prsOf ks vs env dp).drop 17)).1.zip (cut N (kv.drop 17)).1).map (·.1)).flatten ++ (cut N ((prsOf ks vs env dp).drop 17)).2) := by
    rw [zip_fst hcl, cut_flat, List.take_append_drop]
  have ek : kv = kv.take 17 ++ ((((cut N ((prsOf ks vs env dp).drop 17)).1.zip (cut N (kv.drop 17)).1).map (·.2)).flatten ++ (cut N (kv.drop 17)).2) := by
    rw [zip_snd hcl, cut_flat, List.take_append_drop]
  have em : (prsOf ks vs env dp).map asItem = ((prsOf ks vs env dp).take 17).map asItem ++ (((((cut N ((prsOf ks vs env dp).drop 17)).1.zip (cut N (kv.drop 17)).1).map (·.1)).flatten).map asItem ++ ((cut N ((prsOf ks vs env dp).drop 17)).2).map asItem) := by
    rw [← List.map_append, ← List.map_append, ← ep]
  rw [em]
  have hzl : ((cut N ((prsOf ks vs env dp).drop 17)).1.zip (cut N (kv.drop 17)).1).length = N := by
    rw [List.length_zip, cut_len, cut_len, Nat.min_self]
  refine wpDisplay (base := s.heap) hb hsm (hP.take 17) h17 h1 h2 (by rw [h3, hd]; omega) (by intro e; rw [e] at h3; simp at h3; omega) (by rw [hzl]; omega) (hp_nil _) (by rw [← ek]; exact apart_asc (by omega) hasc) fun q j hj => ⟨rfl, ?_, ?_⟩
  · rw [zip_snd hcl, hzl]
    rfl
  · rw [hzl] at hj; omega
end
end Mine
namespace Mine
theorem assign_wrap {ts : List Expr} {d : Expr} {ap : Pos} {env : Env} (h1 : swapsWithSole ts d ap.line env = (pure false : Sem Bool)) (h2 : swappedStores ts d env = (pure none : Sem (Option (List Str))))
    (K : Flow → Sem Fin) (H : Value → Sem Fin) (gd : Bool → Bool) (lv : List Value → List Value) :
    (exec (.Assign ts d ap) env).wrap K H gd lv = .at ap fun _ => (eval d env).wrap (fun v => (assignStores env v none ((assignEach ts env).map (·.2))).wrap K H gd lv) H gd lv := by
  rw [arm_exec_Assign, h1]
  have e : ∀ (g : Value → Sem Flow), (eval d env >>= g).wrap K H gd lv = (eval d env).wrap (fun v => (g v).wrap K H gd lv) H gd lv := fun g => by
    rw [Sem.bind_eq_wrap', Sem.wrap_wrap]; rfl
  rw [← e]
  rw [h2]
  rfl
end Mine


end
section
open PySem PySem.W PyProof.Rows PySem.Calls
namespace Mine
section
variable {prog : Program} {w : World} {A : Around} {E : Value → Shared → Prop} {s : Shared} {env : Env} {h₀ : Heap} {x : Str} {body : List Stmt} {Q : Flow → Shared → Prop}
/-- what is left of a loop over a text's signs -/
def TextRest (prog : Program) (w : World) (A : Around) (E : Value → Shared → Prop) (h₀ : Heap) (env : Env) (x : Str) (body : List Stmt) (Q : Flow → Shared → Prop) (s : Shared) (I : Addr) : List Nat → (Str → Option Value) → List (Addr × Obj) → Prop
  | [], m, news => ∀ h tk, Fr h₀ env.locals h m → News h₀ env.locals h news → Q .next { s with heap := h, toks := tk }
  | c :: r, m, news => ∀ (it : Obj) t h tk, Fr h₀ env.locals h (fun y => if y = x then some (.str ⟨#[c]⟩ t) else m y) → News h₀ env.locals h ((I, it) :: news) →
      wpAny (model prog w) A (execs body env) (UnrPost h₀ env.locals { s with heap := h, toks := tk } I it (TextRest prog w A E h₀ env x body Q s I r) Q) E { s with heap := h, toks := tk }
theorem TextRest.zero {I : Addr} {m : Str → Option Value} {news : List (Addr × Obj)} (h : ∀ h tk, Fr h₀ env.locals h m → News h₀ env.locals h news → Q .next { s with heap := h, toks := tk }) : TextRest prog w A E h₀ env x body Q s I [] m news := h
theorem TextRest.succ {I : Addr} {c : Nat} {r : List Nat} {m : Str → Option Value} {news : List (Addr × Obj)} (h : ∀ (it : Obj) t h tk, Fr h₀ env.locals h (fun y => if y = x then some (.str ⟨#[c]⟩ t) else m y) → News h₀ env.locals h ((I, it) :: news) →
      wpAny (model prog w) A (execs body env) (UnrPost h₀ env.locals { s with heap := h, toks := tk } I it (TextRest prog w A E h₀ env x body Q s I r) Q) E { s with heap := h, toks := tk }) : TextRest prog w A E h₀ env x body Q s I (c :: r) m news := h

theorem text_walks {xt : Str} {tx : Tok} {nm : String} {o : Obj} {m₀ : Str → Option Value} {news : List (Addr × Obj)}
    (W : Walks prog w A s.heap.objs.size [s.heap.objs.size] [s.heap.objs.size] xt.cps.size (SignAt xt) (fun i h => h.IsStrIter s.heap.objs.size nm xt tx i)) (hst : (s.heap.push o).IsStrIter s.heap.objs.size nm xt tx 0)
    (F : Fr h₀ env.locals s.heap m₀) (N : News h₀ env.locals s.heap news) (rest : TextRest prog w A E h₀ env x body Q s s.heap.objs.size xt.cps.toList m₀ news) :
    LoopAtV prog w A h₀ env x body Q E (.ref s.heap.objs.size) { s with heap := s.heap.push o } := by
  have hnew := next_is_new F
  let J : Nat → (Str → Option Value) → List (Addr × Obj) → Prop := fun i m₁ news₁ => TextRest prog w A E h₀ env x body Q s s.heap.objs.size (xt.cps.toList.drop i) m₁ news₁
  refine ⟨_, _, _, xt.cps.size, _, _, m₀, news, J, rfl, W, ?_, ?_, ?_, hst, F.push _, (fun p hp => ⟨Heap.get?_push_of_some _ (N p hp).1, (N p hp).2⟩), rest, ?_, ?_⟩
  · intro hm
    exact absurd F.ns.lt ((List.mem_singleton.mp hm) ▸ Nat.lt_irrefl _)
  · intro b hb
    rw [List.mem_singleton.mp hb]
    exact hnew
  · intro p hp hI
    exact absurd (Heap.lt_size (N p hp).1) ((List.mem_singleton.mp hI) ▸ Nat.lt_irrefl _)
  · rintro i v m₁ news₁ s₁ own ⟨hh', tk', rfl⟩ hin ⟨c, u, hc, rfl⟩ hJ hoff hown hget hall hst' F₁ N₁
    obtain ⟨it, hit, _⟩ := hst'
    have hmemI := hall s.heap.objs.size (List.mem_cons_self ..) hnew _ hit
    have hdrop : xt.cps.toList.drop i = c :: xt.cps.toList.drop (i + 1) := by
      have hlt' : i < xt.cps.toList.length := by simpa using hin
      rw [List.drop_eq_getElem_cons hlt']
      congr 1
      have : xt.cps.toList[i]? = some c := by simpa using hc
      exact Option.some.inj ((List.getElem?_eq_getElem hlt').symm.trans this)
    have hJ' : TextRest prog w A E h₀ env x body Q s s.heap.objs.size (c :: xt.cps.toList.drop (i + 1)) m₁ news₁ := by rw [← hdrop]; exact hJ
    have N₂ : News h₀ env.locals hh' ((s.heap.objs.size, it) :: news₁) := fun p hp => by
      rcases List.mem_cons.mp hp with rfl | hp
      · exact N₁ _ (List.mem_append_left _ hmemI)
      · exact N₁ _ (List.mem_append_right _ hp)
    refine wpAny_mono (hJ' it u hh' tk' F₁ N₂) (fun f s₂ p => ?_) fun _ _ e => e
    have fin : UnrEnd h₀ env.locals { s with heap := hh', toks := tk' } s.heap.objs.size it (TextRest prog w A E h₀ env x body Q s s.heap.objs.size (xt.cps.toList.drop (i + 1))) s₂ →
        LoopStepU h₀ env.locals [s.heap.objs.size] own (J (i + 1)) { s with heap := hh', toks := tk' } .next s₂ := by
      rintro ⟨h', tk, m', news', e, F', N', ho, r⟩
      refine ⟨rfl, h', tk, m', news', e, F', fun p hp => ?_, fun p hp hI => ho p hp (List.mem_singleton.mp hI), r⟩
      rcases List.mem_append.mp hp with hp | hp
      · have h2 : hh'.get? p.1 = some p.2 := hget p hp
        have h1 := List.mem_singleton.mp (hown p hp)
        have h3 : p = (s.heap.objs.size, it) := by
          rw [h1, hit] at h2
          exact Prod.ext h1 (Option.some.inj h2).symm
        rw [h3]; exact N' _ (List.mem_cons_self ..)
      · exact N' _ (List.mem_cons_of_mem _ hp)
    cases f with
    | ret v => exact .ret p
    | brk => exact .brk p
    | next => exact .next (fin p)
    | cont => exact .cont (fin p)
  · rintro h' tk m' news' F' N' _ hJ
    have z : xt.cps.toList.drop xt.cps.size = [] := by rw [List.drop_eq_nil_iff]; simp
    have hJ' : TextRest prog w A E h₀ env x body Q s s.heap.objs.size [] m' news' := by rw [← z]; exact hJ
    exact hJ' h' tk F' N'
theorem iter_text {xt : Str} {tx : Tok} {m₀ : Str → Option Value} {news : List (Addr × Obj)} (hh : A.handled = none) (F : Fr h₀ env.locals s.heap m₀) (N : News h₀ env.locals s.heap news)
    (rest₀ : ∀ I : Addr, (∀ p ∈ news, p.1 < I) → TextRest prog w A E h₀ env x body Q s I xt.cps.toList m₀ news) :
    wpAny (model prog w) A (pyIter (.str xt tx)) (fun it s₂ => LoopAtV prog w A h₀ env x body Q E it s₂) E s := by
  have rest := rest₀ s.heap.objs.size fun p hp => Heap.lt_size (N p hp).1
  cases ha : xt.cps.all (· < 128)
  · exact wpAny_pyIter_wide ha (text_walks (Walks.strWide hh _ xt tx) ⟨_, Heap.get?_push_size _ rfl, rfl, rfl⟩ F N rest)
  · exact wpAny_pyIter_ascii ha (text_walks (Walks.strAscii hh _ xt tx) ⟨_, Heap.get?_push_size _ rfl, rfl, rfl⟩ F N rest)
/-- a turn's end: the iterator stands, the rest goes on -/
theorem unrEnd_lt {L I : Addr} {it : Obj} {rest : (Str → Option Value) → List (Addr × Obj) → Prop} {s₁ : Shared} {h' : Heap} {tk : Nat} {m' : Str → Option Value} {all : List (Addr × Obj)} (F : Fr h₀ L h' m') (N : News h₀ L h' all) (news' : List (Addr × Obj))
    (hI : (I, it) ∈ all) (sub : ∀ p ∈ news', p ∈ all) (off : ∀ p ∈ news', p.1 < I ∨ I < p.1) (r : rest m' news') : UnrEnd h₀ L s₁ I it rest { s₁ with heap := h', toks := tk } :=
  UnrEnd.intro F N news' (fun p hp => by
    rcases List.mem_cons.mp hp with rfl | hp
    · exact hI
    · exact sub p hp) (fun p hp e => by
    rcases off p hp with h | h <;> (rw [e] at h; exact Nat.lt_irrefl _ h)) r
end
end Mine

end
section
namespace Mine
/-- one turn of the walk through a cutting: where the piece began, how many pieces, how many ways -/
def stepK (V : Nat → Nat → Int) (mask n : Nat) (st : Nat × Int × Int) (k : Nat) : Nat × Int × Int :=
  if k = n ∨ mask / 2 ^ (k - 1) % 2 = 1 then (k, st.2.1 + 1, st.2.2 * V st.1 k) else st
def runK (V : Nat → Nat → Int) (mask n : Nat) : Nat × Int × Int := (List.range n).foldl (fun st j => stepK V mask n st (j + 1)) (0, 0, 1)
theorem foldl_same {α β : Type} {f g : β → α → β} : ∀ {l : List α} {b : β}, (∀ a ∈ l, ∀ x, f x a = g x a) → l.foldl f b = l.foldl g b
  | [], _, _ => rfl
  | a :: l, b, h => by
    rw [List.foldl_cons, List.foldl_cons, h a (List.mem_cons_self ..) b]
    exact foldl_same fun a' h' => h a' (List.mem_cons_of_mem _ h')
theorem foldl_stay {α β : Type} {f : β → α → β} : ∀ {l : List α} {b : β}, (∀ a ∈ l, ∀ x, f x a = x) → l.foldl f b = b
  | [], _, _ => rfl
  | a :: l, b, h => by
    rw [List.foldl_cons, h a (List.mem_cons_self ..) b]
    exact foldl_stay fun a' h' => h a' (List.mem_cons_of_mem _ h')
/-- nothing is cut before the end -/
theorem runK_zero (V : Nat → Nat → Int) {n : Nat} (hn : 1 ≤ n) : runK V 0 n = (n, 1, V 0 n) := by
  obtain ⟨m, rfl⟩ : ∃ m, n = m + 1 := ⟨n - 1, by omega⟩
  unfold runK
  rw [List.range_succ, List.foldl_append, List.foldl_cons, List.foldl_nil]
  rw [foldl_stay (fun a ha x => by
    have := List.mem_range.mp ha
    unfold stepK
    rw [if_neg]
    rintro (h | h)
    · omega
    · simp at h)]
  unfold stepK
  rw [if_pos (Or.inl rfl)]
  simp
theorem bit_low {s k m : Nat} (hk : k < s) (h1 : 1 ≤ k) : (2 ^ (s - 1) + m) / 2 ^ (k - 1) % 2 = m / 2 ^ (k - 1) % 2 := by
  have e : 2 ^ (s - 1) = 2 ^ (k - 1) * (2 * 2 ^ (s - k - 1)) := by
    rw [← Nat.pow_succ', ← Nat.pow_add]
    congr 1
    omega
  rw [e, Nat.mul_add_div (Nat.two_pow_pos _)]
  omega
theorem bit_high {s k m : Nat} (hk : s < k) (hm : m < 2 ^ (s - 1)) (hs : 1 ≤ s) : (2 ^ (s - 1) + m) / 2 ^ (k - 1) % 2 = 0 := by
  have h1 : 2 ^ (s - 1) + m < 2 ^ s := by
    have : 2 ^ s = 2 ^ (s - 1) * 2 := by rw [← Nat.pow_succ]; congr 1; omega
    omega
  have h2 : 2 ^ s ≤ 2 ^ (k - 1) := Nat.pow_le_pow_right (by decide) (by omega)
  rw [Nat.div_eq_of_lt (Nat.lt_of_lt_of_le h1 h2)]
theorem bit_top {s m : Nat} (hm : m < 2 ^ (s - 1)) : (2 ^ (s - 1) + m) / 2 ^ (s - 1) % 2 = 1 := by
  have : (2 ^ (s - 1) + m) / 2 ^ (s - 1) = 1 := by
    rw [Nat.add_div_left _ (Nat.two_pow_pos _), Nat.div_eq_of_lt hm]
  rw [this]
theorem runK_start (V : Nat → Nat → Int) {mask n : Nat} (hn : 1 ≤ n) : (runK V mask n).1 = n := by
  obtain ⟨m, rfl⟩ : ∃ m, n = m + 1 := ⟨n - 1, by omega⟩
  unfold runK
  rw [List.range_succ, List.foldl_append, List.foldl_cons, List.foldl_nil]
  unfold stepK
  rw [if_pos (Or.inl rfl)]
/-- the last cut at s -/
theorem runK_last (V : Nat → Nat → Int) {s n m : Nat} (hs : 1 ≤ s) (hn : s < n) (hm : m < 2 ^ (s - 1)) :
    runK V (2 ^ (s - 1) + m) n = (n, (runK V m s).2.1 + 1, (runK V m s).2.2 * V s n) := by
  have hst := runK_start V (mask := m) hs
  have e1 : (List.range s).foldl (fun st j => stepK V (2 ^ (s - 1) + m) n st (j + 1)) (0, 0, 1) = runK V m s := by
    unfold runK
    refine foldl_same fun j hj x => ?_
    have hj' := List.mem_range.mp hj
    unfold stepK
    by_cases hjs : j + 1 = s
    · rw [if_pos (Or.inr (by rw [hjs]; exact bit_top hm)), if_pos (Or.inl hjs)]
    · have hb := bit_low (s := s) (k := j + 1) (m := m) (by omega) (by omega)
      by_cases hbit : m / 2 ^ (j + 1 - 1) % 2 = 1
      · rw [if_pos (Or.inr (hb.trans hbit)), if_pos (Or.inr hbit)]
      · rw [if_neg (by rintro (h | h); omega; exact hbit (hb.symm.trans h)), if_neg (by rintro (h | h); exact hjs h; exact hbit h)]
  obtain ⟨d, rfl⟩ : ∃ d, n = s + d + 1 := ⟨n - s - 1, by omega⟩
  unfold runK
  rw [List.range_succ, List.foldl_append, List.foldl_cons, List.foldl_nil, List.range_add, List.foldl_append]
  rw [show (List.range s).foldl (fun st j => stepK V (2 ^ (s - 1) + m) (s + d + 1) st (j + 1)) (0, 0, 1) = runK V m s from e1]
  rw [foldl_stay (fun a ha x => by
    obtain ⟨i, hi, rfl⟩ := List.mem_map.mp ha
    have hi' := List.mem_range.mp hi
    unfold stepK
    rw [if_neg]
    rintro (h | h)
    · omega
    · rw [bit_high (s := s) (k := s + i + 1) (by omega) hm hs] at h
      cases h)]
  unfold stepK
  rw [if_pos (Or.inl rfl)]
  rw [hst]
  rfl
end Mine

end
section
namespace Mine
/-- the lesser of two counts that may be lacking -/
def om : Option Int → Option Int → Option Int
  | none, b => b
  | some a, none => some a
  | some a, some b => if b < a then some b else some a
def plus (x y : Option Int × Int) : Option Int × Int := (om x.1 y.1, x.2 + y.2)
theorem om_none (a : Option Int) : om a none = a := by cases a <;> rfl
theorem om_some (a b : Int) : om (some a) (some b) = some (if b < a then b else a) := by
  show (if b < a then some b else some a) = _
  split <;> rfl
theorem om_assoc : ∀ (a b c : Option Int), om (om a b) c = om a (om b c)
  | none, _, _ => rfl
  | some _, none, _ => rfl
  | some a, some b, none => by rw [om_none, om_none]
  | some a, some b, some c => by
    rw [om_some, om_some, om_some, om_some]
    congr 1
    by_cases h1 : b < a <;> by_cases h2 : c < b <;> by_cases h3 : c < a <;> simp only [h1, h2, h3, if_true, if_false] <;> first | rfl | omega
theorem plus_assoc (x y z : Option Int × Int) : plus (plus x y) z = plus x (plus y z) := by
  unfold plus
  rw [om_assoc, Int.add_assoc]
theorem plus_zero (x : Option Int × Int) : plus x (none, 0) = x := by
  unfold plus; rw [om_none, Int.add_zero]
theorem zero_plus (x : Option Int × Int) : plus (none, 0) x = x := by
  unfold plus; simp [om]
def allOf (l : List (Option Int × Int)) : Option Int × Int := l.foldr plus (none, 0)
theorem allOf_app : ∀ (a b : List (Option Int × Int)), allOf (a ++ b) = plus (allOf a) (allOf b)
  | [], b => (zero_plus _).symm
  | x :: a, b => by
    show plus x (allOf (a ++ b)) = plus (plus x (allOf a)) (allOf b)
    rw [allOf_app a b, plus_assoc]
theorem foldl_plus : ∀ (l : List (Option Int × Int)) (acc : Option Int × Int), l.foldl plus acc = plus acc (allOf l)
  | [], acc => (plus_zero acc).symm
  | x :: l, acc => by
    rw [List.foldl_cons, foldl_plus l (plus acc x), plus_assoc]
    rfl
/-- a last piece with v signs behind -/
def act (v : Int) (x : Option Int × Int) : Option Int × Int := if v > 0 then (x.1.map (· + 1), v * x.2) else (none, 0)
theorem om_map (a b : Option Int) : (om a b).map (· + 1) = om (a.map (· + 1)) (b.map (· + 1)) := by
  cases a <;> cases b <;> simp only [om, Option.map] 
  rename_i a b
  by_cases h : b < a
  · rw [if_pos h, if_pos (by omega)]
  · rw [if_neg h, if_neg (by omega)]
theorem act_plus (v : Int) (x y : Option Int × Int) : act v (plus x y) = plus (act v x) (act v y) := by
  unfold act plus
  split
  · simp only [om_map, Int.mul_add]
  · rfl
theorem act_all (v : Int) : ∀ l : List (Option Int × Int), act v (allOf l) = allOf (l.map (act v))
  | [] => by unfold allOf act; split <;> simp
  | x :: l => by
    show act v (plus x (allOf l)) = plus (act v x) (allOf (l.map (act v)))
    rw [act_plus, act_all v l]
def item (V : Nat → Nat → Int) (m n : Nat) : Option Int × Int := if (runK V m n).2.2 > 0 then (some (runK V m n).2.1, (runK V m n).2.2) else (none, 0)
theorem item_zero (V : Nat → Nat → Int) {n : Nat} (hn : 1 ≤ n) : item V 0 n = act (V 0 n) (some 0, 1) := by
  unfold item act
  rw [runK_zero V hn]
  simp
theorem item_last (V : Nat → Nat → Int) (hV : ∀ s e, 0 ≤ V s e) {s n m : Nat} (hs : 1 ≤ s) (hn : s < n) (hm : m < 2 ^ (s - 1)) : item V (2 ^ (s - 1) + m) n = act (V s n) (item V m s) := by
  unfold item act
  rw [runK_last V hs hn hm]
  generalize (runK V m s).2.2 = w
  generalize (runK V m s).2.1 = p
  have hv := hV s n
  by_cases h : V s n > 0
  · rw [if_pos h]
    by_cases hw : w > 0
    · rw [if_pos hw, if_pos (Int.mul_pos hw h)]
      simp [Int.mul_comm]
    · rw [if_neg hw, if_neg (by
        intro hp
        have hz : w * V s n ≤ 0 := Int.mul_nonpos_of_nonpos_of_nonneg (Int.not_lt.mp hw) hv
        exact absurd hp (Int.not_lt.mpr hz))]
      simp
  · have h0 : V s n = 0 := by omega
    rw [if_neg h, h0]
    simp
/-- every way of cutting the first n places -/
def cutAll (V : Nat → Nat → Int) (n : Nat) : Option Int × Int := allOf ((List.range (2 ^ (n - 1))).map fun m => item V m n)
def best (V : Nat → Nat → Int) (n : Nat) : Option Int × Int := if n = 0 then (some 0, 1) else cutAll V n
theorem blocks (V : Nat → Nat → Int) (hV : ∀ s e, 0 ≤ V s e) {N : Nat} : ∀ n, 1 ≤ n → n ≤ N → allOf ((List.range (2 ^ (n - 1))).map fun m => item V m N) = allOf ((List.range n).map fun s => act (V s N) (best V s))
  | 0, h, _ => absurd h (by decide)
  | 1, _, h => by
    show plus (item V 0 N) (none, 0) = plus (act (V 0 N) (best V 0)) (none, 0)
    rw [item_zero V h]
    rfl
  | n + 2, _, h => by
    have ih := blocks V hV (N := N) (n + 1) (by omega) (by omega)
    have e : 2 ^ (n + 2 - 1) = 2 ^ (n + 1 - 1) + 2 ^ (n + 1 - 1) := by
      rw [show n + 2 - 1 = (n + 1 - 1) + 1 by omega, Nat.pow_succ]; omega
    rw [e, List.range_add, List.map_append, allOf_app, ih, List.range_succ (n := n + 1), List.map_append, allOf_app]
    congr 1
    rw [List.map_map]
    have e2 : (List.range (2 ^ (n + 1 - 1))).map ((fun m => item V m N) ∘ fun x => 2 ^ (n + 1 - 1) + x) = ((List.range (2 ^ (n + 1 - 1))).map fun m => item V m (n + 1)).map (act (V (n + 1) N)) := by
      rw [List.map_map]
      refine List.map_congr_left fun m hm => ?_
      exact item_last V hV (by omega) (by omega) (List.mem_range.mp hm)
    rw [e2, ← act_all]
    show _ = plus (act (V (n + 1) N) (best V (n + 1))) (none, 0)
    rw [plus_zero]
    rfl
/-- the walk's reckoning is every cut's -/
theorem best_rec (V : Nat → Nat → Int) (hV : ∀ s e, 0 ≤ V s e) {n : Nat} (hn : 1 ≤ n) : best V n = allOf ((List.range n).map fun s => act (V s n) (best V s)) := by
  have e : best V n = cutAll V n := by unfold best; rw [if_neg (by omega)]
  rw [e]
  exact blocks V hV n hn (Nat.le_refl _)
end Mine

end
section
namespace Mine
/-- what the walk has reckoned of the place e when it has looked at the starts below i -/
def accW (V : Nat → Nat → Int) (e i : Nat) : Option Int × Int := allOf ((List.range i).map fun s => act (V s e) (best V s))
theorem accW_zero (V : Nat → Nat → Int) (e : Nat) : accW V e 0 = (none, 0) := rfl
theorem allOf_one (x : Option Int × Int) : allOf [x] = x := plus_zero x
theorem accW_succ (V : Nat → Nat → Int) (e i : Nat) : accW V e (i + 1) = plus (accW V e i) (act (V i e) (best V i)) := by
  unfold accW
  rw [List.range_succ, List.map_append, allOf_app, List.map_cons, List.map_nil, allOf_one]
theorem accW_best {V : Nat → Nat → Int} (hV : ∀ s e, 0 ≤ V s e) {n : Nat} (hn : 1 ≤ n) : accW V n n = best V n := (best_rec V hV hn).symm
/-- a count that may be lacking: within 0 .. k, or lacking and then no texts; texts within 0 .. T -/
structure Ok (k : Int) (T : Int) (x : Option Int × Int) : Prop where
  low : ∀ a, x.1 = some a → 0 ≤ a ∧ a ≤ k
  zero : x.1 = none → x.2 = 0
  nn : 0 ≤ x.2
  le : x.2 ≤ T
theorem ok_plus {k T1 T2 : Int} {x y : Option Int × Int} (hx : Ok k T1 x) (hy : Ok k T2 y) : Ok k (T1 + T2) (plus x y) := by
  obtain ⟨a, b⟩ := x
  obtain ⟨c, d⟩ := y
  have h1 := hx.nn; have h2 := hx.le; have h3 := hy.nn; have h4 := hy.le
  refine ⟨?_, ?_, ?_, ?_⟩
  · cases a with
    | none => intro z hz; exact hy.low z hz
    | some a =>
      cases c with
      | none => intro z hz; exact hx.low z hz
      | some c =>
        intro z hz
        have h5 := hx.low a rfl
        have h6 := hy.low c rfl
        simp only [plus, om_some, Option.some.injEq] at hz
        rw [← hz]
        split <;> assumption
  · intro hz
    have e1 : a = none := by
      cases a with
      | none => rfl
      | some a => cases c with
        | none => cases hz
        | some c => simp only [plus, om_some] at hz; cases hz
    have e2 : c = none := by
      subst e1
      exact hz
    have := hx.zero e1
    have := hy.zero e2
    simp only [plus] at *
    omega
  · simp only [plus] at *; omega
  · simp only [plus] at *; omega
theorem ok_act {k T v : Int} {x : Option Int × Int} (hv0 : 0 ≤ v) (hv : v ≤ 3) (hk : 0 ≤ k) (hx : Ok k T x) : Ok (k + 1) (3 * T) (act v x) := by
  have h1 := hx.nn; have h2 := hx.le
  unfold act
  by_cases h : v > 0
  · rw [if_pos h]
    refine ⟨fun a ha => ?_, fun hz => ?_, ?_, ?_⟩
    · cases hx1 : x.1 with
      | none => simp only [hx1, Option.map] at ha; cases ha
      | some b =>
        have := hx.low b hx1
        simp only [hx1, Option.map, Option.some.injEq] at ha
        omega
    · cases hx1 : x.1 with
      | none => show v * x.2 = 0; rw [hx.zero hx1, Int.mul_zero]
      | some b => simp only [hx1, Option.map] at hz; cases hz
    · exact Int.mul_nonneg hv0 h1
    · have : v = 1 ∨ v = 2 ∨ v = 3 := by omega
      show v * x.2 ≤ 3 * T
      rcases this with rfl | rfl | rfl <;> omega
  · rw [if_neg h]
    exact ⟨fun a ha => (nomatch ha), fun _ => rfl, by decide, by show (0 : Int) ≤ 3 * T; omega⟩
theorem ok_mono {k k' T T' : Int} {x : Option Int × Int} (h : Ok k T x) (hk : k ≤ k') (hT : T ≤ T') : Ok k' T' x :=
  ⟨fun a ha => ⟨(h.low a ha).1, Int.le_trans (h.low a ha).2 hk⟩, h.zero, h.nn, Int.le_trans h.le hT⟩
def four (n : Nat) : Int := ((4 ^ n : Nat) : Int)
theorem four_succ (n : Nat) : four (n + 1) = 4 * four n := by unfold four; rw [Nat.pow_succ]; omega
theorem four_pos (n : Nat) : 0 < four n := by unfold four; have := Nat.pow_pos (n := n) (show 0 < 4 by decide); omega
theorem four_mono {m n : Nat} (h : m ≤ n) : four m ≤ four n := by
  unfold four
  have := Nat.pow_le_pow_right (show 0 < 4 by decide) h
  omega
theorem ok_best {V : Nat → Nat → Int} (hV : ∀ s e, 0 ≤ V s e) (hV3 : ∀ s e, V s e ≤ 3) : ∀ n : Nat, Ok (n : Int) (four n) (best V n) ∧ ∀ e, Ok (n : Int) (four n - 1) (accW V e n) := by
  intro n
  induction n using Nat.strongRecOn with
  | _ n ih =>
  have hacc : ∀ e, Ok (n : Int) (four n - 1) (accW V e n) := by
    intro e
    cases n with
    | zero => exact ⟨fun a ha => (nomatch ha), fun _ => rfl, Int.le_refl 0, by show (0 : Int) ≤ four 0 - 1; decide⟩
    | succ n =>
      rw [accW_succ]
      obtain ⟨h1, h2⟩ := ih n (Nat.lt_succ_self _)
      have h3 := ok_plus (ok_mono (h2 e) (by omega) (Int.le_refl _)) (ok_act (hV n e) (hV3 n e) (by omega) h1)
      refine ok_mono h3 (by omega) ?_
      rw [four_succ]
      have := four_pos n
      omega
  refine ⟨?_, hacc⟩
  cases n with
  | zero => exact ⟨fun a ha => by cases ha; decide, fun hz => (nomatch hz), by show (0 : Int) ≤ 1; decide, by show (1 : Int) ≤ four 0; decide⟩
  | succ n =>
    rw [← accW_best hV (by omega)]
    exact ok_mono (hacc (n + 1)) (by omega) (by omega)
/-- the walk through one cutting, at the place k -/
def runAt (V : Nat → Nat → Int) (mask n k : Nat) : Nat × Int × Int := (List.range k).foldl (fun st j => stepK V mask n st (j + 1)) (0, 0, 1)
theorem runAt_end (V : Nat → Nat → Int) (mask n : Nat) : runAt V mask n n = runK V mask n := rfl
theorem runAt_zero (V : Nat → Nat → Int) (mask n : Nat) : runAt V mask n 0 = (0, 0, 1) := rfl
theorem runAt_succ (V : Nat → Nat → Int) (mask n k : Nat) : runAt V mask n (k + 1) = stepK V mask n (runAt V mask n k) (k + 1) := by
  unfold runAt
  rw [List.range_succ, List.foldl_append, List.foldl_cons, List.foldl_nil]
theorem runAt_ok {V : Nat → Nat → Int} (hV : ∀ s e, 0 ≤ V s e) (hV3 : ∀ s e, V s e ≤ 3) (mask n : Nat) : ∀ k, (runAt V mask n k).1 ≤ k ∧ 0 ≤ (runAt V mask n k).2.1 ∧ (runAt V mask n k).2.1 ≤ k ∧ 0 ≤ (runAt V mask n k).2.2 ∧ (runAt V mask n k).2.2 ≤ four k := by
  intro k
  induction k with
  | zero => rw [runAt_zero]; exact ⟨by decide, by decide, by decide, by decide, by decide⟩
  | succ k ih =>
    rw [runAt_succ]
    obtain ⟨h1, h2, h3, h4, h5⟩ := ih
    have hp := four_pos k
    unfold stepK
    split
    · refine ⟨Nat.le_refl _, ?_, ?_, Int.mul_nonneg h4 (hV _ _), ?_⟩
      · show (0 : Int) ≤ (runAt V mask n k).2.1 + 1; omega
      · show (runAt V mask n k).2.1 + 1 ≤ _; omega
      · have a := hV (runAt V mask n k).1 (k + 1)
        have b := hV3 (runAt V mask n k).1 (k + 1)
        show (runAt V mask n k).2.2 * V (runAt V mask n k).1 (k + 1) ≤ four (k + 1)
        rw [four_succ]
        have : V (runAt V mask n k).1 (k + 1) = 0 ∨ V (runAt V mask n k).1 (k + 1) = 1 ∨ V (runAt V mask n k).1 (k + 1) = 2 ∨ V (runAt V mask n k).1 (k + 1) = 3 := by omega
        rcases this with h | h | h | h <;> rw [h] <;> omega
    · rw [four_succ]
      refine ⟨by omega, h2, by omega, h4, by omega⟩
/-- what going through the cuttings below c has found -/
def accC (V : Nat → Nat → Int) (n c : Nat) : Option Int × Int := allOf ((List.range c).map fun m => item V m n)
theorem accC_zero (V : Nat → Nat → Int) (n : Nat) : accC V n 0 = (none, 0) := rfl
theorem accC_succ (V : Nat → Nat → Int) (n c : Nat) : accC V n (c + 1) = plus (accC V n c) (item V c n) := by
  unfold accC
  rw [List.range_succ, List.map_append, allOf_app, List.map_cons, List.map_nil, allOf_one]
theorem accC_best (V : Nat → Nat → Int) {n : Nat} (hn : 1 ≤ n) : accC V n (2 ^ (n - 1)) = best V n := by
  unfold accC best
  rw [if_neg (by omega)]
  rfl
theorem ok_item {V : Nat → Nat → Int} (hV : ∀ s e, 0 ≤ V s e) (hV3 : ∀ s e, V s e ≤ 3) (m n : Nat) : Ok (n : Int) (four n) (item V m n) := by
  have h := runAt_ok hV hV3 m n n
  rw [runAt_end] at h
  obtain ⟨h1, h2, h3, h4, h5⟩ := h
  unfold item
  split
  · exact ⟨fun a ha => by cases ha; exact ⟨h2, h3⟩, fun hz => (nomatch hz), h4, h5⟩
  · exact ⟨fun a ha => (nomatch ha), fun _ => rfl, by decide, Int.le_of_lt (four_pos n)⟩
theorem ok_accC {V : Nat → Nat → Int} (hV : ∀ s e, 0 ≤ V s e) (hV3 : ∀ s e, V s e ≤ 3) (n : Nat) : ∀ c : Nat, Ok (n : Int) ((c : Int) * four n) (accC V n c)
  | 0 => ⟨fun a ha => (nomatch ha), fun _ => rfl, Int.le_refl 0, by show (0 : Int) ≤ ((0 : Nat) : Int) * _; simp⟩
  | c + 1 => by
    rw [accC_succ]
    have h := ok_plus (ok_accC hV hV3 n c) (ok_item hV hV3 c n)
    refine ok_mono h (Int.le_refl _) ?_
    rw [show ((c + 1 : Nat) : Int) = (c : Int) + 1 by omega, Int.add_mul, Int.one_mul]
    exact Int.le_refl _
end Mine
namespace Mine
theorem accW_skip {V : Nat → Nat → Int} (hV : ∀ s e, 0 ≤ V s e) (hV3 : ∀ s e, V s e ≤ 3) {e i : Nat} (h : V i e ≤ 0 ∨ (best V i).1 = none) : accW V e (i + 1) = accW V e i := by
  rw [accW_succ]
  have hz : act (V i e) (best V i) = (none, 0) := by
    unfold act
    split
    · rename_i hv
      rcases h with h | h
      · omega
      · rw [h, (ok_best hV hV3 i).1.zero h, Int.mul_zero]; rfl
    · rfl
  rw [hz, plus_zero]
theorem accW_some {V : Nat → Nat → Int} {e i : Nat} {b : Int} (hv : 0 < V i e) (hb : (best V i).1 = some b) : accW V e (i + 1) = (om (accW V e i).1 (some (b + 1)), (accW V e i).2 + V i e * (best V i).2) := by
  rw [accW_succ]
  unfold act plus
  rw [if_pos hv, hb]
  rfl
theorem item_pos {V : Nat → Nat → Int} {m n : Nat} (h : 0 < (runK V m n).2.2) : item V m n = (some (runK V m n).2.1, (runK V m n).2.2) := by unfold item; rw [if_pos h]
theorem item_neg {V : Nat → Nat → Int} {m n : Nat} (h : ¬ 0 < (runK V m n).2.2) : item V m n = (none, 0) := by unfold item; rw [if_neg h]
end Mine

end
section
open PySem PySem.W PyProof.Rows PySem.Calls
namespace Mine
section
variable {prog : Program} {w : World} {A : Around} {E : Value → Shared → Prop} {s : Shared} {env : Env} {h₀ : Heap} {x : Str} {body : List Stmt} {Q : Flow → Shared → Prop}
theorem post_mono {L I : Addr} {it : Obj} {r r' : (Str → Option Value) → List (Addr × Obj) → Prop} {s₁ : Shared} {f : Flow} {s₂ : Shared} (h : UnrPost h₀ L s₁ I it r Q f s₂) (hr : ∀ m n, r m n → r' m n) : UnrPost h₀ L s₁ I it r' Q f s₂ := by
  cases f with
  | ret v => exact h
  | brk => exact h
  | next => exact let ⟨h', tk, m', n', e, F, N, o, q⟩ := h; ⟨h', tk, m', n', e, F, N, o, hr _ _ q⟩
  | cont => exact let ⟨h', tk, m', n', e, F, N, o, q⟩ := h; ⟨h', tk, m', n', e, F, N, o, hr _ _ q⟩
/-- a loop over a list of the ledger, with an invariant of one's own -/
theorem list_ind {Iad : Addr} {lp : Addr × Obj} (I : List Value → (Str → Option Value) → List (Addr × Obj) → Prop)
    (turn : ∀ v r m news, I (v :: r) m news → ∀ (it : Obj) h tk, it.cls = .type "list_iterator" → Fr h₀ env.locals h (fun y => if y = x then some v else m y) → News h₀ env.locals h ((Iad, it) :: news) →
      wpAny (model prog w) A (execs body env) (UnrPost h₀ env.locals { s with heap := h, toks := tk } Iad it (fun m' n' => lp ∈ n' ∧ I r m' n') Q) E { s with heap := h, toks := tk })
    (fin : ∀ m news, I [] m news → ∀ h tk, Fr h₀ env.locals h m → News h₀ env.locals h news → Q .next { s with heap := h, toks := tk }) :
    ∀ l m news, I l m news → ListRest prog w A E h₀ env x body Q s Iad lp l m news
  | [], m, news, h => ListRest.zero (fin m news h)
  | v :: r, m, news, h => ListRest.succ fun it h' tk hc F N => wpAny_mono (turn v r m news h it h' tk hc F N) (fun _ _ p => post_mono p fun m' n' q => ⟨q.1, list_ind I turn fin r m' n' q.2⟩) fun _ _ e => e
/-- a loop over a text's signs, with an invariant of one's own -/
theorem text_ind {Iad : Addr} (I : List Nat → (Str → Option Value) → List (Addr × Obj) → Prop)
    (turn : ∀ c r m news, I (c :: r) m news → ∀ (it : Obj) t h tk, Fr h₀ env.locals h (fun y => if y = x then some (.str ⟨#[c]⟩ t) else m y) → News h₀ env.locals h ((Iad, it) :: news) →
      wpAny (model prog w) A (execs body env) (UnrPost h₀ env.locals { s with heap := h, toks := tk } Iad it (I r) Q) E { s with heap := h, toks := tk })
    (fin : ∀ m news, I [] m news → ∀ h tk, Fr h₀ env.locals h m → News h₀ env.locals h news → Q .next { s with heap := h, toks := tk }) :
    ∀ l m news, I l m news → TextRest prog w A E h₀ env x body Q s Iad l m news
  | [], m, news, h => TextRest.zero (fin m news h)
  | c :: r, m, news, h => TextRest.succ fun it t h' tk F N => wpAny_mono (turn c r m news h it t h' tk F N) (fun _ _ p => post_mono p fun m' n' q => text_ind I turn fin r m' n' q) fun _ _ e => e
end
theorem canonM1 {m' : Str → Option Value} {x : Str} {vx : Value} (hx : m' x = some vx) : m' = fun n => if n = x then some vx else m' n := by
  funext n
  by_cases e1 : n = x
  · rw [if_pos e1, e1, hx]
  · rw [if_neg e1]
theorem canonM2 {m' : Str → Option Value} {x y : Str} {vx vy : Value} (hx : m' x = some vx) (hy : m' y = some vy) : m' = fun n => if n = x then some vx else if n = y then some vy else m' n := by
  funext n
  by_cases e1 : n = x
  · rw [if_pos e1, e1, hx]
  · rw [if_neg e1]; exact congrFun (canonM1 hy) n
theorem canonM3 {m' : Str → Option Value} {x y z : Str} {vx vy vz : Value} (hx : m' x = some vx) (hy : m' y = some vy) (hz : m' z = some vz) : m' = fun n => if n = x then some vx else if n = y then some vy else if n = z then some vz else m' n := by
  funext n
  by_cases e1 : n = x
  · rw [if_pos e1, e1, hx]
  · rw [if_neg e1]; exact congrFun (canonM2 hy hz) n
end Mine

end
section
open PySem PySem.W PyProof.Rows PySem.Calls
namespace Mine
section
variable {prog : Program} {w : World} {A : Around} {E : Value → Shared → Prop} {s : Shared} {env : Env} {h₀ : Heap} {x : Str} {body : List Stmt} {Q : Flow → Shared → Prop}
/-- what is left of a loop over a tuple; Kp: where the tuple stands in the ledger, if it does -/
def TupRest (prog : Program) (w : World) (A : Around) (E : Value → Shared → Prop) (h₀ : Heap) (env : Env) (x : Str) (body : List Stmt) (Q : Flow → Shared → Prop) (s : Shared) (I : Addr) (Kp : List (Addr × Obj) → Prop) : List Value → (Str → Option Value) → List (Addr × Obj) → Prop
  | [], m, news => ∀ h tk, Fr h₀ env.locals h m → News h₀ env.locals h news → Q .next { s with heap := h, toks := tk }
  | v :: r, m, news => ∀ (it : Obj) h tk, Fr h₀ env.locals h (fun y => if y = x then some v else m y) → News h₀ env.locals h ((I, it) :: news) →
      wpAny (model prog w) A (execs body env) (UnrPost h₀ env.locals { s with heap := h, toks := tk } I it (fun m' n' => Kp n' ∧ TupRest prog w A E h₀ env x body Q s I Kp r m' n') Q) E { s with heap := h, toks := tk }
/-- a loop over a tuple, with an invariant of one's own -/
theorem tup_ind {Iad : Addr} {Kp : List (Addr × Obj) → Prop} (I : List Value → (Str → Option Value) → List (Addr × Obj) → Prop)
    (turn : ∀ v r m news, I (v :: r) m news → ∀ (it : Obj) h tk, Fr h₀ env.locals h (fun y => if y = x then some v else m y) → News h₀ env.locals h ((Iad, it) :: news) →
      wpAny (model prog w) A (execs body env) (UnrPost h₀ env.locals { s with heap := h, toks := tk } Iad it (fun m' n' => Kp n' ∧ I r m' n') Q) E { s with heap := h, toks := tk })
    (fin : ∀ m news, I [] m news → ∀ h tk, Fr h₀ env.locals h m → News h₀ env.locals h news → Q .next { s with heap := h, toks := tk }) :
    ∀ l m news, I l m news → TupRest prog w A E h₀ env x body Q s Iad Kp l m news
  | [], m, news, h => fin m news h
  | v :: r, m, news, h => fun it h' tk F N => wpAny_mono (turn v r m news h it h' tk F N) (fun _ _ p => post_mono p fun m' n' q => ⟨q.1, tup_ind I turn fin r m' n' q.2⟩) fun _ _ e => e
theorem tup_walks {ax : Addr} {vs : List Value} {o : Obj} {Kp : List (Addr × Obj) → Prop} {m₀ : Str → Option Value} {news : List (Addr × Obj)} (W : Walks prog w A s.heap.objs.size [s.heap.objs.size, ax] [s.heap.objs.size] vs.length (fun i v => vs.toArray[i]? = some v) (fun i h => h.IsTupleIter s.heap.objs.size ax i ∧ h.IsTuple ax vs.toArray))
    (hst : (s.heap.push o).IsTupleIter s.heap.objs.size ax 0 ∧ (s.heap.push o).IsTuple ax vs.toArray) (hL : env.locals ≠ ax) (F : Fr h₀ env.locals s.heap m₀) (N : News h₀ env.locals s.heap news) (hK : Kp news)
    (hax : (∃ oo, h₀.get? ax = some oo) ∨ ∃ lo, ∀ n', Kp n' → (ax, lo) ∈ n')
    (rest : TupRest prog w A E h₀ env x body Q s s.heap.objs.size Kp vs m₀ news) : LoopAtV prog w A h₀ env x body Q E (.ref s.heap.objs.size) { s with heap := s.heap.push o } := by
  have hnew := next_is_new F
  let J : Nat → (Str → Option Value) → List (Addr × Obj) → Prop := fun i m₁ news₁ => Kp news₁ ∧ TupRest prog w A E h₀ env x body Q s s.heap.objs.size Kp (vs.drop i) m₁ news₁
  refine ⟨_, _, _, vs.length, _, _, m₀, news, J, rfl, W, ?_, ?_, ?_, hst, F.push _, (fun p hp => ⟨Heap.get?_push_of_some _ (N p hp).1, (N p hp).2⟩), ⟨hK, by rw [List.drop_zero]; exact rest⟩, ?_, ?_⟩
  · intro hmm
    rcases List.mem_cons.mp hmm with e | hmm
    · exact absurd F.ns.lt (e ▸ Nat.lt_irrefl _)
    · exact hL (List.mem_singleton.mp hmm)
  · intro b hb
    rw [List.mem_singleton.mp hb]
    exact hnew
  · intro p hp hI
    exact absurd (Heap.lt_size (N p hp).1) ((List.mem_singleton.mp hI) ▸ Nat.lt_irrefl _)
  · rintro i v m₁ news₁ s₁ own ⟨hh', tk', rfl⟩ hin hP ⟨hmem₁, hJ⟩ hoff hown hget hall hst F₁ N₁
    obtain ⟨it, hit, hic, hid⟩ := hst.1
    have hmemI := hall s.heap.objs.size (List.mem_cons_self ..) hnew _ hit
    have hdrop : vs.drop i = v :: vs.drop (i + 1) := by
      have hlt' : i < vs.length := hin
      have hv : vs[i]? = some v := by simpa using hP
      rw [List.drop_eq_getElem_cons hlt']
      congr 1
      exact Option.some.inj ((List.getElem?_eq_getElem hlt').symm.trans hv)
    rw [hdrop] at hJ
    have N₂ : News h₀ env.locals hh' ((s.heap.objs.size, it) :: news₁) := fun p hp => by
      rcases List.mem_cons.mp hp with rfl | hp
      · exact N₁ _ (List.mem_append_left _ hmemI)
      · exact N₁ _ (List.mem_append_right _ hp)
    refine wpAny_mono (hJ it hh' tk' F₁ N₂) (fun f s₂ p => ?_) fun _ _ e => e
    have fin : UnrEnd h₀ env.locals { s with heap := hh', toks := tk' } s.heap.objs.size it (fun m' n' => Kp n' ∧ TupRest prog w A E h₀ env x body Q s s.heap.objs.size Kp (vs.drop (i + 1)) m' n') s₂ →
        LoopStepU h₀ env.locals [s.heap.objs.size] own (J (i + 1)) { s with heap := hh', toks := tk' } .next s₂ := by
      rintro ⟨h', tk, m', news', e, F', N', ho, hmm, r⟩
      refine ⟨rfl, h', tk, m', news', e, F', fun p hp => ?_, fun p hp hI => ho p hp (List.mem_singleton.mp hI), hmm, r⟩
      rcases List.mem_append.mp hp with hp | hp
      · have h2 : hh'.get? p.1 = some p.2 := hget p hp
        rcases List.mem_cons.mp (hown p hp) with h1 | h1
        · have h3 : p = (s.heap.objs.size, it) := by
            rw [h1, hit] at h2
            exact Prod.ext h1 (Option.some.inj h2).symm
          rw [h3]; exact N' _ (List.mem_cons_self ..)
        · have h1' : p.1 = ax := List.mem_singleton.mp h1
          rcases hax with ⟨oo, hoo⟩ | ⟨lo, hlo⟩
          · have := (N₁ _ (List.mem_append_left _ hp)).2.2
            rw [h1', hoo] at this; cases this
          · have h3 : p = (ax, lo) := by
              rw [h1', (N₁ _ (List.mem_append_right _ (hlo _ hmem₁))).1] at h2
              exact Prod.ext h1' (Option.some.inj h2).symm
            rw [h3]; exact N' _ (List.mem_cons_of_mem _ (hlo _ hmm))
      · exact N' _ (List.mem_cons_of_mem _ hp)
    cases f with
    | ret v => exact .ret p
    | brk => exact .brk p
    | next => exact .next (fin p)
    | cont => exact .cont (fin p)
  · rintro h' tk m' news' F' N' _ ⟨_, hJ⟩
    have z : vs.drop vs.length = [] := List.drop_length
    rw [z] at hJ
    exact hJ h' tk F' N'
/-- a loop over a tuple that stood before -/
theorem iter_tupB {ax : Addr} {vs : List Value} {m₀ : Str → Option Value} {news : List (Addr × Obj)} (hh : A.handled = none) (F : Fr h₀ env.locals s.heap m₀) (N : News h₀ env.locals s.heap news) (T : IsTup h₀ ax vs.toArray)
    (rest₀ : ∀ I : Addr, (∀ p ∈ news, p.1 < I) → TupRest prog w A E h₀ env x body Q s I (fun _ => True) vs m₀ news) :
    wpAny (model prog w) A (pyIter (.ref ax)) (fun it s₂ => LoopAtV prog w A h₀ env x body Q E it s₂) E s := by
  have hl : s.heap.IsTuple ax vs.toArray := by obtain ⟨o, ho, r⟩ := T; exact ⟨o, F.keep _ _ ho, r⟩
  have hlt : ax < s.heap.objs.size := by obtain ⟨o, ho, _⟩ := hl; exact Heap.lt_size ho
  have hne : ax ≠ s.heap.objs.size := Nat.ne_of_lt hlt
  refine wpAny_pyIter_tuple hl ?_
  have rest := rest₀ s.heap.objs.size fun p hp => Heap.lt_size (N p hp).1
  have W := Walks.tuple (prog := prog) (w := w) hh s.heap.objs.size ax hne vs.toArray
  have hlen : vs.toArray.size = vs.length := by simp
  rw [hlen] at W
  have hLn : h₀.get? env.locals = none := Heap.get?_none_of_le F.above
  exact tup_walks W ⟨⟨_, Heap.get?_push_size _ rfl, rfl, rfl⟩, hl.at fun o e => Heap.get?_push_of_some _ e⟩ (fun e => by obtain ⟨o, ho, _⟩ := T; rw [← e, hLn] at ho; cases ho) F N trivial (.inl (by obtain ⟨o, ho, _⟩ := T; exact ⟨o, ho⟩)) rest
/-- a loop over a tuple of the ledger -/
theorem iter_tupL {ax : Addr} {lo : Obj} {vs : List Value} {n : Nat} {m₀ : Str → Option Value} {news : List (Addr × Obj)} (hh : A.handled = none) (F : Fr h₀ env.locals s.heap m₀) (N : News h₀ env.locals s.heap news) (hm : (ax, lo) ∈ news) (hc : lo.cls = .type "tuple") (hd : lo.data = .seq vs.toArray n)
    (rest₀ : ∀ I : Addr, (∀ p ∈ news, p.1 < I) → TupRest prog w A E h₀ env x body Q s I (fun n' => (ax, lo) ∈ n') vs m₀ news) :
    wpAny (model prog w) A (pyIter (.ref ax)) (fun it s₂ => LoopAtV prog w A h₀ env x body Q E it s₂) E s := by
  have hax := N _ hm
  have hl : s.heap.IsTuple ax vs.toArray := ⟨lo, hax.1, hc, n, hd⟩
  have hlt : ax < s.heap.objs.size := Heap.lt_size hax.1
  have hne : ax ≠ s.heap.objs.size := Nat.ne_of_lt hlt
  refine wpAny_pyIter_tuple hl ?_
  have rest := rest₀ s.heap.objs.size fun p hp => Heap.lt_size (N p hp).1
  have W := Walks.tuple (prog := prog) (w := w) hh s.heap.objs.size ax hne vs.toArray
  have hlen : vs.toArray.size = vs.length := by simp
  rw [hlen] at W
  exact tup_walks W ⟨⟨_, Heap.get?_push_size _ rfl, rfl, rfl⟩, hl.at fun o e => Heap.get?_push_of_some _ e⟩ (fun e => hax.2.1 e.symm) F N hm (.inr ⟨lo, fun _ h => h⟩) rest
/-- a loop over a range, with an invariant of one's own -/
theorem range_ind {Iad : Addr} {a : Int} {n : Nat} (I : Nat → (Str → Option Value) → List (Addr × Obj) → Prop)
    (turn : ∀ i m news, i < n → I i m news → ∀ (it : Obj) t h tk, Fr h₀ env.locals h (fun y => if y = x then some (.int (a + (i : Int)) t) else m y) → News h₀ env.locals h ((Iad, it) :: news) →
      wpAny (model prog w) A (execs body env) (UnrPost h₀ env.locals { s with heap := h, toks := tk } Iad it (I (i + 1)) Q) E { s with heap := h, toks := tk })
    (fin : ∀ m news, I n m news → ∀ h tk, Fr h₀ env.locals h m → News h₀ env.locals h news → Q .next { s with heap := h, toks := tk }) :
    ∀ k i m news, k + i = n → I i m news → RangeRest prog w A E h₀ env x body Q s Iad a n k i m news
  | 0, i, m, news, hk, h => RangeRest.zero (fin m news (by rw [Nat.zero_add] at hk; rw [← hk]; exact h))
  | k + 1, i, m, news, hk, h => RangeRest.succ fun t h' tk F N => wpAny_mono (turn i m news (by omega) h _ t h' tk F N) (fun _ _ p => post_mono p fun m' n' q => range_ind I turn fin k (i + 1) m' n' (by omega) q) fun _ _ e => e
end
end Mine

end
section
open PySem PySem.W PyProof.Rows PySem.Calls
namespace Mine
theorem range_size {a b : Int} {n : Nat} (h : b = a + (n : Int)) : Builtin.Range.rangeSize a b 1 = (n : Int) := by
  unfold Builtin.Range.rangeSize
  rw [if_pos (by decide)]
  split
  · rw [Int.ediv_one]; omega
  · omega
theorem range_small {a b : Int} (h0 : 0 ≤ a) (h1 : a ≤ 1000) (h2 : 0 ≤ b) (h3 : b ≤ 1000) : Builtin.Range.small a b 1 = true := by
  unfold Builtin.Range.small Builtin.Range.rangeFitsLong Builtin.Range.rangeSize
  simp
  omega
end Mine

end
section
open PySem PySem.W PyProof.Rows PySem.Calls
namespace Mine
abbrev pw : Program := PySem.Challenge.pw_dw5011_01
abbrev ann0 : Option Value := some (.ref 6)
def bodyM : List Stmt := behindTheImports pw
def envM : Env := { scope := pw.main.scope, locals := mainNs, globals := mainNs, cells := [], code := .ref 13, frame := some 14 }
abbrev codeM : Code := .body (behindTheImports pw) envM
abbrev q0 : Pos := ⟨0, 0, 0, 0⟩
noncomputable def S0 (w : World) (os : OsState) : Shared := ⟨boot_heap w.params, #[], boot_drawn, boot_toks, os⟩
noncomputable def SA0 (w : World) (os : OsState) : Shared := ((topGo treeTable pw w 11 ann0 12 (S0 w os) (topStub pw)).map (·.1)).getD (S0 w os)
theorem pre_run (w : World) (os : OsState) : topGo treeTable pw w 11 ann0 12 (S0 w os) (topStub pw) = some (SA0 w os, ⟨denote treeTable codeM, codeM, q0, [topFrame q0]⟩) := by kernel_rfl
def stm (i : Nat) : Stmt := (behindTheImports pw).getD i (.Pass q0)
def restM : List Stmt := (behindTheImports pw).drop 2
theorem body_split : behindTheImports pw = stm 0 :: stm 1 :: restM := by kernel_rfl
theorem block_run (w : World) (os : OsState) : segRun treeTable pw w 11 ann0 1 1 (SA0 w os) (blockOf (behindTheImports pw) envM codeM q0 [topFrame q0]) = some (.next, SA0 w os, codeM, q0) := by kernel_rfl
noncomputable def SA1 (w : World) (os : OsState) : Shared := ((segRun treeTable pw w 11 ann0 1 10 (SA0 w os) (pieceOf (stm 0) envM codeM q0 [topFrame q0])).map (·.2.1)).getD (S0 w os)
theorem piece0_run (w : World) (os : OsState) : segRun treeTable pw w 11 ann0 1 10 (SA0 w os) (pieceOf (stm 0) envM codeM q0 [topFrame q0]) = some (.next, SA1 w os, codeM, ⟨1, 0, 1, 8⟩) := by kernel_rfl
/-- the keys and the values of the display -/
def dKs : List (Option Expr) := match stm 1 with | .Assign _ (.Dict ks _ _) _ => ks | _ => []
def dVs : List Expr := match stm 1 with | .Assign _ (.Dict _ vs _) _ => vs | _ => []
def dDp : Pos := match stm 1 with | .Assign _ (.Dict _ _ dp) _ => dp | _ => q0
def dTs : List Expr := match stm 1 with | .Assign ts _ _ => ts | _ => []
def dAp : Pos := match stm 1 with | .Assign _ _ ap => ap | _ => q0
theorem stm1 : stm 1 = .Assign dTs (.Dict dKs dVs dDp) dAp := by kernel_rfl
def kv : List (Int × Str) := (kvOf dKs dVs).getD []
theorem kv_of : kvOf dKs dVs = some kv := by kernel_rfl
theorem kv_len : kv.length = 17 * (37 + 1) + 4 := by kernel_rfl
theorem kv_asc : asc (-1) kv = true := by kernel_rfl
theorem sa1_size (w : World) (os : OsState) : (SA1 w os).heap.objs.size = 15 := by kernel_rfl
theorem sa1_toks (w : World) (os : OsState) : (SA1 w os).toks = 189 := by kernel_rfl
noncomputable def SE (w : World) (os : OsState) : Shared := dictAfter 37 kv (SA1 w os)
theorem no_swap : swapsWithSole dTs (.Dict dKs dVs dDp) dAp.line envM = (pure false : Sem Bool) := by kernel_rfl
theorem no_swapped : swappedStores dTs (.Dict dKs dVs dDp) envM = (pure none : Sem (Option (List Str))) := by kernel_rfl
def tailF (v : Value) : Sem Flow := assignStores envM v none ((assignEach dTs envM).map (·.2))
noncomputable def SD (w : World) (os : OsState) : Shared := ((segRun treeTable pw w 11 ann0 1 10 (SE w os) ⟨(tailF (.ref 15)).wrap doneF deadEnd id id, codeM, q0, [topFrame q0]⟩).map (·.2.1)).getD (S0 w os)
theorem tail_run (w : World) (os : OsState) (q : Pos) : segRun treeTable pw w 11 ann0 1 10 (SE w os) ⟨(tailF (.ref 15)).wrap doneF deadEnd id id, codeM, q, [topFrame q0]⟩ = some (.next, SD w os, codeM, ⟨2, 0, 2, 13⟩) := by kernel_rfl
theorem dict_reach (w : World) (os : OsState) (p1 : Pos) (K : Flow → Sem Fin) (H : Value → Sem Fin) (gd : Bool → Bool) (lv : List Value → List Value) :
    ∃ q n, n ≤ 39002 ∧ Reach pw w 11 ann0 n (SA1 w os) ⟨(exec (stm 1) envM).wrap K H gd lv, codeM, p1, [topFrame q0]⟩ (SE w os) ⟨(tailF (.ref 15)).wrap K H gd lv, codeM, q, [topFrame q0]⟩ := by
  obtain ⟨v, q, s', n, ⟨rfl, rfl, hn⟩, hr⟩ := wpDict (p := pw) (w := w) (n₀ := 11) (ann := ann0) (c := codeM) (fr := topFrame q0) (st := []) (pos := dAp) (s := SA1 w os) (m := 0) (env := envM) (dp := dDp) (N := 37) (r := 4) kv_of kv_len (by omega) (by omega) (by omega) kv_asc
    (by rw [sa1_size]; omega) (by rw [sa1_size]; decide)
  refine ⟨q, 1 + n, by omega, ?_⟩
  rw [stm1, assign_wrap no_swap no_swapped]
  refine .trans (.one (s1 := SA1 w os) (t1 := ⟨(eval (.Dict dKs dVs dDp) envM).wrap (fun v => (tailF v).wrap K H gd lv) H gd lv, codeM, dAp, [topFrame q0]⟩) rfl rfl rfl) ?_
  have := hr (fun v => (tailF v).wrap K H gd lv) H gd lv
  rw [sa1_size] at this
  exact this
theorem dict_run (w : World) (os : OsState) : ∃ n, n ≤ 39012 ∧ segRun treeTable pw w 11 ann0 1 n (SA1 w os) (pieceOf (stm 1) envM codeM ⟨1, 0, 1, 8⟩ [topFrame q0]) = some (.next, SD w os, codeM, ⟨2, 0, 2, 13⟩) := by
  obtain ⟨q, n, hn, hr⟩ := dict_reach w os ⟨1, 0, 1, 8⟩ doneF deadEnd id id
  exact ⟨n + 10, by omega, seg_go hr (tail_run w os q)⟩
noncomputable def SF (w : World) (os : OsState) : Shared := (topRun treeTable pw w 11 ann0 400 (SD w os) (restOf restM envM codeM ⟨2, 0, 2, 13⟩ [topFrame q0])).getD (S0 w os)
theorem rest_run (w : World) (os : OsState) : topRun treeTable pw w 11 ann0 400 (SD w os) (restOf restM envM codeM ⟨2, 0, 2, 13⟩ [topFrame q0]) = some (SF w os) := by kernel_rfl
theorem sf_size (w : World) (os : OsState) : (SF w os).heap.objs.size = 105 := by kernel_rfl
theorem run_all (w : World) (os : OsState) : topRun treeTable pw w 11 ann0 50000 (S0 w os) (topStub pw) = some (SF w os) := by
  obtain ⟨n, hn, h⟩ := dict_run w os
  have e := go_top (pre_run w os) (piece_block (block_run w os) (body_split ▸ piece_cons (piece0_run w os) (piece_cons h (rest_run w os))))
  have := topRun_mono (50000 - (12 + (1 + (10 + (n + 400))))) _ _ _ _ e
  rw [show 12 + (1 + (10 + (n + 400))) + (50000 - (12 + (1 + (10 + (n + 400))))) = 50000 by omega] at this
  exact this
end Mine

end
section
open PySem PySem.W PyProof.Rows PySem.Calls
namespace Mine
def fArgs : Stmt → Arguments
  | .FunctionDef _ a _ _ _ _ _ _ _ _ => a
  | _ => { posonlyargs := [], args := [], vararg := none, kwonlyargs := [], kw_defaults := [], kwarg := none, defaults := [] }
def fBody : Stmt → List Stmt
  | .FunctionDef _ _ b _ _ _ _ _ _ _ => b
  | _ => []
def fScope : Stmt → Scope
  | .FunctionDef _ _ _ _ _ _ sc _ _ _ => sc
  | _ => pw.main.scope
abbrev rhsOf {α : Type} {a b : α} (_ : a = b) : α := b
@[reducible] def FA2 : Arguments := @rhsOf _ (fArgs (stm 2)) _ (by conv => (lhs; whnf))
@[reducible] def FB2 : List Stmt := @rhsOf _ (fBody (stm 2)) _ (by conv => (lhs; whnf))
@[reducible] def FS2 : Scope := @rhsOf _ (fScope (stm 2)) _ (by conv => (lhs; whnf))
@[reducible] def FA6 : Arguments := @rhsOf _ (fArgs (stm 6)) _ (by conv => (lhs; whnf))
@[reducible] def FB6 : List Stmt := @rhsOf _ (fBody (stm 6)) _ (by conv => (lhs; whnf))
@[reducible] def FS6 : Scope := @rhsOf _ (fScope (stm 6)) _ (by conv => (lhs; whnf))
@[reducible] def FA7 : Arguments := @rhsOf _ (fArgs (stm 7)) _ (by conv => (lhs; whnf))
@[reducible] def FB7 : List Stmt := @rhsOf _ (fBody (stm 7)) _ (by conv => (lhs; whnf))
@[reducible] def FS7 : Scope := @rhsOf _ (fScope (stm 7)) _ (by conv => (lhs; whnf))
@[reducible] def FA8 : Arguments := @rhsOf _ (fArgs (stm 8)) _ (by conv => (lhs; whnf))
@[reducible] def FB8 : List Stmt := @rhsOf _ (fBody (stm 8)) _ (by conv => (lhs; whnf))
@[reducible] def FS8 : Scope := @rhsOf _ (fScope (stm 8)) _ (by conv => (lhs; whnf))
@[reducible] def FA9 : Arguments := @rhsOf _ (fArgs (stm 9)) _ (by conv => (lhs; whnf))
@[reducible] def FB9 : List Stmt := @rhsOf _ (fBody (stm 9)) _ (by conv => (lhs; whnf))
@[reducible] def FS9 : Scope := @rhsOf _ (fScope (stm 9)) _ (by conv => (lhs; whnf))
@[reducible] def FA10 : Arguments := @rhsOf _ (fArgs (stm 10)) _ (by conv => (lhs; whnf))
@[reducible] def FB10 : List Stmt := @rhsOf _ (fBody (stm 10)) _ (by conv => (lhs; whnf))
@[reducible] def FS10 : Scope := @rhsOf _ (fScope (stm 10)) _ (by conv => (lhs; whnf))
@[reducible] def FA11 : Arguments := @rhsOf _ (fArgs (stm 11)) _ (by conv => (lhs; whnf))
@[reducible] def FB11 : List Stmt := @rhsOf _ (fBody (stm 11)) _ (by conv => (lhs; whnf))
@[reducible] def FS11 : Scope := @rhsOf _ (fScope (stm 11)) _ (by conv => (lhs; whnf))
noncomputable def K : Params → Frag := fun P =>
  (nat_lit 2, (⟨.none, none, (.dict [].toArray 0), #[]⟩ : Obj)) ::
  (nat_lit 3, (⟨(.type "dict"), none, (.dict [⟨PyData.keyHash P (Str.ofString "__name__"), (.str (Str.ofString "__name__") 165), (.str (Str.ofString "law_dw5011_01") 2148)⟩, ⟨PyData.keyHash P (Str.ofString "__doc__"), (.str (Str.ofString "__doc__") 166), .none⟩, ⟨PyData.keyHash P (Str.ofString "__package__"), (.str (Str.ofString "__package__") 167), .none⟩, ⟨PyData.keyHash P (Str.ofString "__loader__"), (.str (Str.ofString "__loader__") 168), (.builtin "__main__.__loader__#opaque")⟩, ⟨PyData.keyHash P (Str.ofString "__spec__"), (.str (Str.ofString "__spec__") 169), .none⟩, ⟨PyData.keyHash P (Str.ofString "__annotations__"), (.str (Str.ofString "__annotations__") 170), (.ref 6)⟩, ⟨PyData.keyHash P (Str.ofString "__builtins__"), (.str (Str.ofString "__builtins__") 171), (.ref 4)⟩, ⟨PyData.keyHash P (Str.ofString "__file__"), (.str (Str.ofString "__file__") 173), (.str (Str.ofString "/claim/cut.py") 172)⟩, ⟨PyData.keyHash P (Str.ofString "__cached__"), (.str (Str.ofString "__cached__") 174), .none⟩, ⟨PyData.keyHash P (Str.ofString "b3_exceptions"), (.str (Str.ofString "b3_exceptions") 2139), (.ref 15)⟩, ⟨PyData.keyHash P (Str.ofString "map_table_b3"), (.str (Str.ofString "map_table_b3") 2147), (.ref 60)⟩, ⟨PyData.keyHash P (Str.ofString "_law_SIGNS"), (.str (Str.ofString "_law_SIGNS") 2205), (.ref 61)⟩, ⟨PyData.keyHash P (Str.ofString "_law_DRAW"), (.str (Str.ofString "_law_DRAW") 2257), (.ref 62)⟩, ⟨PyData.keyHash P (Str.ofString "_law_COUNT"), (.str (Str.ofString "_law_COUNT") 2263), (.ref 69)⟩, ⟨PyData.keyHash P (Str.ofString "_law_book"), (.str (Str.ofString "_law_book") 2273), (.ref 76)⟩, ⟨PyData.keyHash P (Str.ofString "_law_walk"), (.str (Str.ofString "_law_walk") 2288), (.ref 83)⟩, ⟨PyData.keyHash P (Str.ofString "_law_signs_for"), (.str (Str.ofString "_law_signs_for") 2295), (.ref 90)⟩, ⟨PyData.keyHash P (Str.ofString "_law_every_cut"), (.str (Str.ofString "_law_every_cut") 2309), (.ref 97)⟩, ⟨PyData.keyHash P (Str.ofString "law"), (.str (Str.ofString "law") 2319), (.ref 104)⟩].toArray 19), #[]⟩ : Obj)) ::
  (nat_lit 6, (⟨(.type "dict"), none, (.dict [].toArray 0), #[]⟩ : Obj)) ::
  (nat_lit 15, (⟨(.type "dict"), none, (.dict (dictEs 189 37 kv).toArray 650), #[]⟩ : Obj)) ::
  (nat_lit 54, (⟨(.type "tuple"), none, (.seq [].toArray 0), #[]⟩ : Obj)) ::
  (nat_lit 56, (⟨(.type "tuple"), none, (.seq [(.str (Str.ofString "code") 2143), (.str (Str.ofString "r") 2144)].toArray 0), #[]⟩ : Obj)) ::
  (nat_lit 57, (⟨(.type "tuple"), none, (.seq [].toArray 0), #[]⟩ : Obj)) ::
  (nat_lit 59, (⟨(.type "code"), none, (.fields #[(.str (Str.ofString "map_table_b3") 2140), (.str (Str.ofString "map_table_b3") 2141), (.str (Str.ofString "/claim/cut.py") 2142), (.int (3) 0), (.int (1) 0), (.int (0) 0), (.int (0) 0), (.int (3) 0), (.ref 54), (.bool true), (.int (181) 0), (.ref 55), .none, (.ref 56), (.ref 57), (.ref 58), (.int (2145) 0), (.int (3) 0), (.str (Str.ofString "/claim/cut.py") 2146)]), #[]⟩ : Obj)) ::
  (nat_lit 60, (⟨(.type "function"), none, (.func (fnOf (Str.ofString "map_table_b3") (Str.ofString "map_table_b3") FA2 FB2 FS2 .none .none .none (.str (Str.ofString "cpy313.stringprep") 187) none (.ref 59) .none)), #[]⟩ : Obj)) ::
  (nat_lit 61, (⟨(.type "tuple"), none, (.seq [(.int (13171) 2150), (.int (13251) 2151), (.int (13256) 2152), (.int (64256) 2153), (.int (64259) 2154), (.int (64260) 2155), (.int (64257) 2156), (.int (64258) 2157), (.int (13191) 2158), (.int (13203) 2159), (.int (13228) 2160), (.int (13257) 2161), (.int (13259) 2162), (.int (13169) 2163), (.int (13200) 2164), (.int (13188) 2165), (.int (13189) 2166), (.int (13201) 2167), (.int (13261) 2168), (.int (13262) 2169), (.int (13226) 2170), (.int (13240) 2171), (.int (13246) 2172), (.int (13187) 2173), (.int (13190) 2174), (.int (13202) 2175), (.int (13227) 2176), (.int (13239) 2177), (.int (13241) 2178), (.int (13245) 2179), (.int (13247) 2180), (.int (13185) 2181), (.int (13195) 2182), (.int (8470) 2183), (.int (13237) 2184), (.int (13243) 2185), (.int (13173) 2186), (.int (13184) 2187), (.int (13225) 2188), (.int (13194) 2189), (.int (13271) 2190), (.int (13273) 2191), (.int (13274) 2192), (.int (13236) 2193), (.int (13242) 2194), (.int (8360) 2195), (.int (8480) 2196), (.int (223) 2197), (.int (64261) 2198), (.int (64262) 2199), (.int (13276) 2200), (.int (8481) 2201), (.int (13204) 2202), (.int (8482) 2203), (.int (13277) 2204)].toArray 0), #[]⟩ : Obj)) ::
  (nat_lit 62, (⟨(.type "tuple"), none, (.seq [(.str (Str.ofString "au") 2206), (.str (Str.ofString "bq") 2207), (.str (Str.ofString "db") 2208), (.str (Str.ofString "ff") 2209), (.str (Str.ofString "ffi") 2210), (.str (Str.ofString "ffl") 2211), (.str (Str.ofString "fi") 2212), (.str (Str.ofString "fl") 2213), (.str (Str.ofString "gb") 2214), (.str (Str.ofString "ghz") 2215), (.str (Str.ofString "gpa") 2216), (.str (Str.ofString "gy") 2217), (.str (Str.ofString "hp") 2218), (.str (Str.ofString "hpa") 2219), (.str (Str.ofString "hz") 2220), (.str (Str.ofString "ka") 2221), (.str (Str.ofString "kb") 2222), (.str (Str.ofString "khz") 2223), (.str (Str.ofString "kk") 2224), (.str (Str.ofString "km") 2225), (.str (Str.ofString "kpa") 2226), (.str (Str.ofString "kv") 2227), (.str (Str.ofString "kw") 2228), (.str (Str.ofString "ma") 2229), (.str (Str.ofString "mb") 2230), (.str (Str.ofString "mhz") 2231), (.str (Str.ofString "mpa") 2232), (.str (Str.ofString "mv") 2233), (.str (Str.ofString "mw") 2234), (.str (Str.ofString "na") 2235), (.str (Str.ofString "nf") 2236), (.str (Str.ofString "no") 2237), (.str (Str.ofString "nv") 2238), (.str (Str.ofString "nw") 2239), (.str (Str.ofString "ov") 2240), (.str (Str.ofString "pa") 2241), (.str (Str.ofString "pf") 2242), (.str (Str.ofString "ph") 2243), (.str (Str.ofString "ppm") 2244), (.str (Str.ofString "pr") 2245), (.str (Str.ofString "pv") 2246), (.str (Str.ofString "pw") 2247), (.str (Str.ofString "rs") 2248), (.str (Str.ofString "sm") 2249), (.str (Str.ofString "ss") 2250), (.str (Str.ofString "st") 2251), (.str (Str.ofString "sv") 2252), (.str (Str.ofString "tel") 2253), (.str (Str.ofString "thz") 2254), (.str (Str.ofString "tm") 2255), (.str (Str.ofString "wb") 2256)].toArray 0), #[]⟩ : Obj)) ::
  (nat_lit 63, (⟨(.type "tuple"), none, (.seq [].toArray 0), #[]⟩ : Obj)) ::
  (nat_lit 65, (⟨(.type "tuple"), none, (.seq [].toArray 0), #[]⟩ : Obj)) ::
  (nat_lit 66, (⟨(.type "tuple"), none, (.seq [].toArray 0), #[]⟩ : Obj)) ::
  (nat_lit 68, (⟨(.type "code"), none, (.fields #[(.str (Str.ofString "_law_COUNT") 2258), (.str (Str.ofString "_law_COUNT") 2259), (.str (Str.ofString "/claim/cut.py") 2260), (.int (11) 0), (.int (0) 0), (.int (0) 0), (.int (0) 0), (.int (3) 0), (.ref 63), (.bool true), (.int (181) 0), (.ref 64), .none, (.ref 65), (.ref 66), (.ref 67), (.int (2261) 0), (.int (11) 0), (.str (Str.ofString "/claim/cut.py") 2262)]), #[]⟩ : Obj)) ::
  (nat_lit 69, (⟨(.type "function"), none, (.func (fnOf (Str.ofString "_law_COUNT") (Str.ofString "_law_COUNT") FA6 FB6 FS6 .none .none .none (.str (Str.ofString "law_dw5011_01") 2148) none (.ref 68) .none)), #[]⟩ : Obj)) ::
  (nat_lit 70, (⟨(.type "tuple"), none, (.seq [].toArray 0), #[]⟩ : Obj)) ::
  (nat_lit 72, (⟨(.type "tuple"), none, (.seq [(.str (Str.ofString "book") 2267), (.str (Str.ofString "code") 2268), (.str (Str.ofString "fold") 2269), (.str (Str.ofString "k") 2270)].toArray 0), #[]⟩ : Obj)) ::
  (nat_lit 73, (⟨(.type "tuple"), none, (.seq [].toArray 0), #[]⟩ : Obj)) ::
  (nat_lit 75, (⟨(.type "code"), none, (.fields #[(.str (Str.ofString "_law_book") 2264), (.str (Str.ofString "_law_book") 2265), (.str (Str.ofString "/claim/cut.py") 2266), (.int (13) 0), (.int (0) 0), (.int (0) 0), (.int (0) 0), (.int (3) 0), (.ref 70), (.bool true), (.int (181) 0), (.ref 71), .none, (.ref 72), (.ref 73), (.ref 74), (.int (2271) 0), (.int (13) 0), (.str (Str.ofString "/claim/cut.py") 2272)]), #[]⟩ : Obj)) ::
  (nat_lit 76, (⟨(.type "function"), none, (.func (fnOf (Str.ofString "_law_book") (Str.ofString "_law_book") FA7 FB7 FS7 .none .none .none (.str (Str.ofString "law_dw5011_01") 2148) none (.ref 75) .none)), #[]⟩ : Obj)) ::
  (nat_lit 77, (⟨(.type "tuple"), none, (.seq [].toArray 0), #[]⟩ : Obj)) ::
  (nat_lit 79, (⟨(.type "tuple"), none, (.seq [(.str (Str.ofString "word") 2277), (.str (Str.ofString "book") 2278), (.str (Str.ofString "fewest") 2279), (.str (Str.ofString "texts") 2280), (.str (Str.ofString "end") 2281), (.str (Str.ofString "least") 2282), (.str (Str.ofString "count") 2283), (.str (Str.ofString "start") 2284), (.str (Str.ofString "many") 2285)].toArray 0), #[]⟩ : Obj)) ::
  (nat_lit 80, (⟨(.type "tuple"), none, (.seq [].toArray 0), #[]⟩ : Obj)) ::
  (nat_lit 82, (⟨(.type "code"), none, (.fields #[(.str (Str.ofString "_law_walk") 2274), (.str (Str.ofString "_law_walk") 2275), (.str (Str.ofString "/claim/cut.py") 2276), (.int (23) 0), (.int (2) 0), (.int (0) 0), (.int (0) 0), (.int (3) 0), (.ref 77), (.bool true), (.int (181) 0), (.ref 78), .none, (.ref 79), (.ref 80), (.ref 81), (.int (2286) 0), (.int (23) 0), (.str (Str.ofString "/claim/cut.py") 2287)]), #[]⟩ : Obj)) ::
  (nat_lit 83, (⟨(.type "function"), none, (.func (fnOf (Str.ofString "_law_walk") (Str.ofString "_law_walk") FA8 FB8 FS8 .none .none .none (.str (Str.ofString "law_dw5011_01") 2148) none (.ref 82) .none)), #[]⟩ : Obj)) ::
  (nat_lit 84, (⟨(.type "tuple"), none, (.seq [].toArray 0), #[]⟩ : Obj)) ::
  (nat_lit 86, (⟨(.type "tuple"), none, (.seq [(.str (Str.ofString "piece") 2292)].toArray 0), #[]⟩ : Obj)) ::
  (nat_lit 87, (⟨(.type "tuple"), none, (.seq [].toArray 0), #[]⟩ : Obj)) ::
  (nat_lit 89, (⟨(.type "code"), none, (.fields #[(.str (Str.ofString "_law_signs_for") 2289), (.str (Str.ofString "_law_signs_for") 2290), (.str (Str.ofString "/claim/cut.py") 2291), (.int (38) 0), (.int (1) 0), (.int (0) 0), (.int (0) 0), (.int (3) 0), (.ref 84), (.bool true), (.int (181) 0), (.ref 85), .none, (.ref 86), (.ref 87), (.ref 88), (.int (2293) 0), (.int (38) 0), (.str (Str.ofString "/claim/cut.py") 2294)]), #[]⟩ : Obj)) ::
  (nat_lit 90, (⟨(.type "function"), none, (.func (fnOf (Str.ofString "_law_signs_for") (Str.ofString "_law_signs_for") FA9 FB9 FS9 .none .none .none (.str (Str.ofString "law_dw5011_01") 2148) none (.ref 89) .none)), #[]⟩ : Obj)) ::
  (nat_lit 91, (⟨(.type "tuple"), none, (.seq [].toArray 0), #[]⟩ : Obj)) ::
  (nat_lit 93, (⟨(.type "tuple"), none, (.seq [(.str (Str.ofString "word") 2299), (.str (Str.ofString "fewest") 2300), (.str (Str.ofString "texts") 2301), (.str (Str.ofString "cuts") 2302), (.str (Str.ofString "start") 2303), (.str (Str.ofString "pieces") 2304), (.str (Str.ofString "ways") 2305), (.str (Str.ofString "k") 2306)].toArray 0), #[]⟩ : Obj)) ::
  (nat_lit 94, (⟨(.type "tuple"), none, (.seq [].toArray 0), #[]⟩ : Obj)) ::
  (nat_lit 96, (⟨(.type "code"), none, (.fields #[(.str (Str.ofString "_law_every_cut") 2296), (.str (Str.ofString "_law_every_cut") 2297), (.str (Str.ofString "/claim/cut.py") 2298), (.int (42) 0), (.int (1) 0), (.int (0) 0), (.int (0) 0), (.int (3) 0), (.ref 91), (.bool true), (.int (181) 0), (.ref 92), .none, (.ref 93), (.ref 94), (.ref 95), (.int (2307) 0), (.int (42) 0), (.str (Str.ofString "/claim/cut.py") 2308)]), #[]⟩ : Obj)) ::
  (nat_lit 97, (⟨(.type "function"), none, (.func (fnOf (Str.ofString "_law_every_cut") (Str.ofString "_law_every_cut") FA10 FB10 FS10 .none .none .none (.str (Str.ofString "law_dw5011_01") 2148) none (.ref 96) .none)), #[]⟩ : Obj)) ::
  (nat_lit 98, (⟨(.type "tuple"), none, (.seq [].toArray 0), #[]⟩ : Obj)) ::
  (nat_lit 100, (⟨(.type "tuple"), none, (.seq [(.str (Str.ofString "script") 2313), (.str (Str.ofString "word") 2314), (.str (Str.ofString "x") 2315), (.str (Str.ofString "k") 2316)].toArray 0), #[]⟩ : Obj)) ::
  (nat_lit 101, (⟨(.type "tuple"), none, (.seq [].toArray 0), #[]⟩ : Obj)) ::
  (nat_lit 103, (⟨(.type "code"), none, (.fields #[(.str (Str.ofString "law") 2310), (.str (Str.ofString "law") 2311), (.str (Str.ofString "/claim/cut.py") 2312), (.int (61) 0), (.int (1) 0), (.int (0) 0), (.int (0) 0), (.int (3) 0), (.ref 98), (.bool true), (.int (181) 0), (.ref 99), .none, (.ref 100), (.ref 101), (.ref 102), (.int (2317) 0), (.int (61) 0), (.str (Str.ofString "/claim/cut.py") 2318)]), #[]⟩ : Obj)) ::
  (nat_lit 104, (⟨(.type "function"), none, (.func (fnOf (Str.ofString "law") (Str.ofString "law") FA11 FB11 FS11 .none .none .none (.str (Str.ofString "law_dw5011_01") 2148) none (.ref 103) .none)), #[]⟩ : Obj)) ::
  []
def asK : List Addr := [2, 3, 6, 15, 54, 56, 57, 59, 60, 61, 62, 63, 65, 66, 68, 69, 70, 72, 73, 75, 76, 77, 79, 80, 82, 83, 84, 86, 87, 89, 90, 91, 93, 94, 96, 97, 98, 100, 101, 103, 104]
def vq : Program := { pw with main := { pw.main with body := [stm 1, stm 2, stm 4, stm 5, stm 6, stm 7, stm 8, stm 9, stm 10, stm 11] } }
abbrev looseM : List Str := [Str.ofString "b3_exceptions"]
theorem as_K (P : Params) : asK = (K P).map (·.1) := by kernel_rfl
theorem y_K (w : World) (os : OsState) : asK.map (SF w os).heap.get? = (K w.params).map fun p => some p.2 := by kernel_rfl

theorem open_1 (P : Params) : ((boot_heap P).isNs mainGlobals && (#[] : Array GenState).size == 0, (boot_heap P).objs.size, (boot_heap P).nsMap mainGlobals "__annotations__") = (true, 11, ann0) := by kernel_rfl
theorem look_1 (w : World) (os : OsState) : staticsOk (importedModules pw.main.body) (boot_heap w.params) (SF w os).heap = true := by kernel_rfl
theorem look_2 (w : World) (os : OsState) : namesBound pw (SF w os).heap = true := by kernel_rfl
theorem look_3 (w : World) (os : OsState) : gensDone (SF w os) = true := by kernel_rfl
theorem look_4 (w : World) (os : OsState) : laidKept (boot_heap w.params) (SF w os).heap = true := by kernel_rfl
abbrev rowL := PySem.Challenge.rw_dw5011_01
abbrev XtM : Shared → Bool := fun s => xlAt vq [] s && recOk (RowW.records rowL.row.toRowW) s
def DD : List (Int × PyData) := kv.map fun p => (p.1, PyData.str p.2)
theorem dd_look : KTD.numsLook (dictEs 189 37 kv) DD = true := by kernel_rfl
theorem asc_nodup : ∀ {lo : Int} {r : List (Int × Str)}, asc lo r = true → (r.map (·.1)).Nodup
  | _, [], _ => List.nodup_nil
  | lo, (k, x) :: r, h => by
    have h' : asc k r = true := by simp only [asc, Bool.and_eq_true] at h; exact h.2
    rw [List.map_cons, List.nodup_cons]
    refine ⟨fun hm => ?_, asc_nodup h'⟩
    obtain ⟨q, hq, e⟩ := List.mem_map.mp hm
    have := asc_all h' q hq
    simp only at e
    omega
theorem dd_nodup : (DD.map (·.1)).Nodup := by
  have e : DD.map (·.1) = kv.map (·.1) := by unfold DD; rw [List.map_map]; rfl
  rw [e]; exact asc_nodup kv_asc
/-- the looks at one name's table -/
def tableOne (p : Program) (h : Heap) (x : Str) : Bool :=
  (match tupIntsOf p x with | some ns => h.tupIntsOk x ns | none => true) &&
  (match tupStrsOf p x with | some ss => h.tupStrsOk x ss | none => true) &&
  (match tabIntOf p x with | some D => h.tabIntOk x D | none => true)
abbrev bX : Str := Str.ofString "b3_exceptions"
theorem names_split : valNames vq = bX :: (valNames vq).tail := by kernel_rfl
theorem tab_b3 : (tupIntsOf vq bX, tupStrsOf vq bX, tabIntOf vq bX) = (none, none, some (DD.map fun p => (PyData.int p.1, p.2))) := by kernel_rfl
theorem heap15 (w : World) (os : OsState) : ((SF w os).heap.get? 15, (SF w os).heap.nsMap mainGlobals bX, (valNames vq).tail.all (tableOne vq (SF w os).heap)) = (some ⟨.type "dict", none, .dict (dictEs 189 37 kv).toArray 650, #[]⟩, some (.ref 15), true) := by kernel_rfl
theorem tables_ok (w : World) (os : OsState) : tablesOk vq (SF w os).heap = true := by
  have h := heap15 w os
  have t := tab_b3
  simp only [Prod.mk.injEq] at h t
  obtain ⟨h1, h2, h3⟩ := h
  obtain ⟨t1, t2, t3⟩ := t
  show (valNames vq).all (tableOne vq (SF w os).heap) = true
  rw [names_split, List.all_cons, h3, Bool.and_true]
  unfold tableOne
  rw [t1, t2, t3]
  show (true && true && (SF w os).heap.tabIntOk bX (DD.map fun p => (PyData.int p.1, p.2))) = true
  rw [Bool.true_and, Bool.true_and]
  obtain ⟨hk, kvs, hp, hf, hm⟩ := KTD.nums_of_look pw w dd_look
  exact tabIntOk_complete (prog := pw) (w := w) h2 ⟨by decide, kvs, ⟨_, (dictEs 189 37 kv).toArray, 650, h1, ⟨rfl, rfl, rfl⟩, rfl, fun e he => hk e (by simpa using he), hp, by rw [hm]; exact dd_nodup⟩, hf⟩
theorem look_a (w : World) (os : OsState) : (seen ((recsOf vq).map (·.name)) (ownsOf vq) [] { SF w os with gens := #[] }, (SF w os).heap.bltView,
   ((SF w os).heap.keysOk (looseW vq looseM) ((recsOf vq).map (·.name)) ((litsOf vq).map (·.1)) ((clssOf vq (looseW vq looseM)).map (·.name)) && (SF w os).heap.accountedOkI (importedModules pw.main.body) && (SF w os).heap.isNs mainGlobals && (SF w os).heap.isNs builtinsNs),
   (XtM (SF w os), (SF w os).gens.size == 0),
   tabsOk vq (SF w os), pinSeenD vq (drecsOf vq) (SF w os), plainSeenE vq (looseW vq looseM) (SF w os), plainSeenD vq looseM (SF w os), wideSeen vq (SF w os), clsSeenW vq looseM (SF w os)) =
  (expectedOf vq, bltViewBooted, true, (true, true), true, pinGoodD (drecsOf vq), plainGoodE vq (looseW vq looseM), plainGoodD vq looseM, wideGood vq, clsGoodW vq looseM) := by kernel_rfl
theorem look_5 (w : World) (os : OsState) : openSeen vq looseM (importedModules pw.main.body) XtM true (SF w os) = openGood vq looseM := by
  have h := look_a w os
  simp only [Prod.mk.injEq] at h
  obtain ⟨a1, a2, a3, ⟨a4, a5⟩, a6, a7, a8, a9, a10, a11⟩ := h
  unfold openSeen openGood
  rw [a1, a2, a3, tables_ok, a4, a6, a7, a8, a9, a10, a11]
  rw [if_pos rfl, a5]
  rfl

theorem top_from (w : World) (os : OsState) : topFrom treeTable pw w 50000 (S0 w os) = some (SF w os) := by
  unfold topFrom
  have h1 := open_1 w.params
  simp only [Prod.mk.injEq] at h1
  obtain ⟨a1, a2, a3⟩ := h1
  rw [show ((S0 w os).heap.isNs mainGlobals && (S0 w os).gens.size == 0) = true from a1, show (S0 w os).heap.objs.size = 11 from a2, show (S0 w os).heap.nsMap mainGlobals "__annotations__" = ann0 from a3]
  dsimp only
  rw [run_all, Option.bind_some]
  rw [show (S0 w os).heap = boot_heap w.params from rfl, look_1, look_2, look_3, look_4]
  rfl
end Mine

end
section
open PySem PySem.W PyProof.Rows PySem.Calls
namespace Mine
theorem left : LeftO pw vq looseM XtM (Hook.obs (kHook K asK as_K)) (Hook.val (kHook K asK as_K)) 50000 := by
  intro w
  have ho := boot_open (p := pw) (N := 50000) (by kernel_rfl) (by rfl) (fun s => rfl) w
  obtain ⟨s, hs, hv⟩ := Option.map_eq_some_iff.mp ho
  obtain ⟨h, g, d, k, os⟩ := s
  obtain ⟨rfl, rfl, rfl, rfl⟩ : h = boot_heap w.params ∧ g = Array.mk [] ∧ d = boot_drawn ∧ k = boot_toks := by simpa using hv
  unfold openEnds
  rw [hs, Option.bind_some]
  refine (congrArg (Option.map _) (top_from w os)).trans ?_
  rw [Option.map_some, look_5]
  exact congrArg (fun x => some (openGood vq looseM, x)) (y_K w os)
end Mine

end
section
open PySem PySem.W PyProof.Rows PySem.Calls
namespace Mine
theorem k15 (P : Params) : (K P).lookup 15 = some ⟨.type "dict", none, .dict (dictEs 189 37 kv).toArray 650, #[]⟩ := by kernel_rfl
theorem keyed15 {P : Params} {h : Heap} (X : (K P).In h) : KTD.Keyed h 15 DD := by
  intro prog w
  obtain ⟨hk, kvs, hp, hf, hm⟩ := KTD.nums_of_look prog w dd_look
  exact ⟨by decide, kvs, ⟨_, (dictEs 189 37 kv).toArray, 650, X _ _ (k15 P), ⟨rfl, rfl, rfl⟩, rfl, fun e he => hk e (by simpa using he), hp, by rw [hm]; exact dd_nodup⟩, hf⟩
/-- what the function under test gives for one sign -/
def fold (c : Nat) : Str := match KTD.datumAt (c : Int) DD with
  | some (.str y) => y
  | _ => Txt.lower ⟨#[c]⟩
theorem dd_str : ∀ {D : List (Int × Str)} {k : Int} {d : PyData}, KTD.datumAt k (D.map fun p => (p.1, PyData.str p.2)) = some d → ∃ y, d = .str y
  | [], k, d, h => by simp [KTD.datumAt] at h
  | (j, y) :: D, k, d, h => by
    simp only [List.map_cons, KTD.datumAt] at h
    split at h
    · cases h; exact ⟨y, rfl⟩
    · exact dd_str h
theorem each_of {h₀ : Heap} {k : Int} {P : Value → Prop} {els : Prop} : ∀ {D : List (Int × Str)}, (∀ y t, KTD.datumAt k (D.map fun p => (p.1, PyData.str p.2)) = some (.str y) → P (.str y t)) → (KTD.datumAt k (D.map fun p => (p.1, PyData.str p.2)) = none → els) →
    KTD.Each h₀ k P els (KTD.asDat (D.map fun p => (p.1, PyData.str p.2)))
  | [], _, h2 => h2 rfl
  | (j, y) :: D, h1, h2 => by
    refine KTD.each_ite ?_
    by_cases e : k = j
    · rw [if_pos (decide_eq_true e)]
      refine KTD.opened_str fun t => h1 y t ?_
      simp only [List.map_cons, KTD.datumAt]
      rw [if_pos (decide_eq_true e)]
    · rw [if_neg (by simp [e])]
      refine each_of (D := D) (fun y' t hy => h1 y' t ?_) (fun hn => h2 ?_)
      · simp only [List.map_cons, KTD.datumAt]
        rw [if_neg (by simp [e])]; exact hy
      · simp only [List.map_cons, KTD.datumAt]
        rw [if_neg (by simp [e])]; exact hn
section
variable {w : World} {A : Around} {E : Value → Shared → Prop} {s : Shared} {h₀ : Heap} {L : Addr} {m : Str → Option Value}
theorem b3_method {pl : Sem Bool} {Q : Value × List Value → Shared → Prop} (F : Fr h₀ L s.heap m) (X : (K w.params).In h₀) (h : Q (.builtin "dict.get", [.ref 15]) s) : wpAny (model pw w) A (getMethod (.ref 15) "get" pl) Q E s :=
  KTD.getMethod_keyed (keyed15 X) F.keep h
theorem b3_get {k : Int} {tk : Tok} {Q : Value → Shared → Prop} (F : Fr h₀ L s.heap m) (X : (K w.params).In h₀) (h1 : ∀ y t, KTD.datumAt k DD = some (.str y) → Q (.str y t) { s with toks := s.toks + 1 }) (h2 : KTD.datumAt k DD = none → Q .none { s with toks := s.toks + 1 }) :
    wpAny (model pw w) A (call (.builtin "dict.get") [.ref 15, .int k tk]) Q E s :=
  KTD.get1_keyed (keyed15 X) F.keep (each_of h1 h2)
theorem ord_one {c : Nat} {t : Tok} {Q : Value → Shared → Prop} (h : Q (.int (c : Int) s.toks) { s with toks := s.toks + 1 }) : wpAny (model pw w) A (call (.builtin "ord") [.str ⟨#[c]⟩ t]) Q E s :=
  ord_of_one rfl h
theorem low_one {c : Nat} {t : Tok} {Q : Value → Shared → Prop} (h : Q (.str (Txt.lower ⟨#[c]⟩) s.toks) { s with toks := s.toks + 1 }) : wpAny (model pw w) A (call (.builtin "str.lower") [.str ⟨#[c]⟩ t]) Q E s :=
  SCL.lower (by show (1 : Nat) ≤ 5592405; omega) fun _ => h
end
theorem fold_some {c : Nat} {y : Str} (h : KTD.datumAt (c : Int) DD = some (.str y)) : fold c = y := by unfold fold; rw [h]
theorem fold_none {c : Nat} (h : KTD.datumAt (c : Int) DD = none) : fold c = Txt.lower ⟨#[c]⟩ := by unfold fold; rw [h]
end Mine
open Mine
local macro_rules | `(tactic| walk_at "getMethod ref") => `(tactic| (k_here; (with_reducible show wpAny _ _ (getMethod (Value.ref 15) _ _) _ _ _); refine' b3_method ?k1 ?k2 ?_; (case k1 => k_asm); (case k2 => k_asm); k_whole; walk_say "B3 METHOD"))
local macro_rules | `(tactic| walk_at "call builtin:dict.get") => `(tactic| (k_here; (with_reducible show wpAny _ _ (call (Value.builtin "dict.get") [Value.ref 15, Value.int _ _]) _ _ _); refine' b3_get ?k1 ?k2 ?_ ?_; (case k1 => k_asm); (case k2 => k_asm); k_whole; all_goals (intros; try dsimp only)))
local macro_rules | `(tactic| walk_at "call builtin:ord") => `(tactic| (k_here; (with_reducible show wpAny _ _ (call (Value.builtin "ord") [Value.str _ _]) _ _ _); refine' ord_one ?_; k_whole; (try dsimp only)))
local macro_rules | `(tactic| walk_at "call builtin:str.lower") => `(tactic| (k_here; (with_reducible show wpAny _ _ (call (Value.builtin "str.lower") [Value.str _ _]) _ _ _); refine' low_one ?_; k_whole; (try dsimp only)))
namespace Mine
/-- a contract of a def: what its call hands on -/
def CT (w : World) (f : Addr) (vs : List Value) (R : Heap → Addr → (Str → Option Value) → List (Addr × Obj) → Shared → (Value → Shared → Prop) → Prop) (d : Nat := 3) : Prop :=
  ∀ (loose : List Str) (mean : ExcName → Option Value) (mg mb : Str → Option Value) (dp un : Nat) (gd : Option (List Code)) (cn : Str) (cs : Scope) (a : Addr) (ccd : Value) (cl : List (Str × Addr)) (outer : List Env) (A₀ : Around) (base h₀ : Heap) (L : Addr)
    (m : Str → Option Value) (news : List (Addr × Obj)) (s : Shared) (Q E : Value → Shared → Prop),
    Below A₀ base outer h₀ → Fr h₀ L s.heap m → (K w.params).In h₀ → News h₀ L s.heap news → Top vq loose mean mg mb h₀ → cs.kind = .function → dp + d < recursionLimit → un + 40 * d < cLine →
    R h₀ L m news s Q → wpAny (model pw w) (ktrTop dp un gd cn cs L a ccd cl outer) (call (.ref f) vs) Q E s
abbrev RetL (r : List Int) : Heap → Addr → (Str → Option Value) → List (Addr × Obj) → Shared → (Value → Shared → Prop) → Prop := fun h₀ L m news s Q =>
  ∀ (a' : Addr) (vs : List Value) (h' : Heap) (tk' : Nat), Fr h₀ L h' m → News h₀ L h' ((a', listOf vs.toArray 0) :: news) → (∀ p ∈ news, p.1 < a') → IntsAre vs r → Q (.ref a') { s with heap := h', toks := tk' }
abbrev RetS (x : Str) : Heap → Addr → (Str → Option Value) → List (Addr × Obj) → Shared → (Value → Shared → Prop) → Prop := fun h₀ L m news s Q =>
  ∀ (t : Tok) (h' : Heap) (tk' : Nat), Fr h₀ L h' m → News h₀ L h' news → Q (.str x t) { s with heap := h', toks := tk' }
abbrev RetP (P : Int → Prop) : Heap → Addr → (Str → Option Value) → List (Addr × Obj) → Shared → (Value → Shared → Prop) → Prop := fun h₀ L m news s Q =>
  ∀ (c : Int) (t : Tok) (h' : Heap) (tk' : Nat), P c → Fr h₀ L h' m → News h₀ L h' news → Q (.int c t) { s with heap := h', toks := tk' }
abbrev RetB (b : Bool) : Heap → Addr → (Str → Option Value) → List (Addr × Obj) → Shared → (Value → Shared → Prop) → Prop := fun h₀ L m news s Q =>
  ∀ (h' : Heap) (tk' : Nat), Fr h₀ L h' m → News h₀ L h' news → Q (.bool b) { s with heap := h', toks := tk' }
theorem CT.use {w : World} {f : Addr} {vs : List Value} {R : Heap → Addr → (Str → Option Value) → List (Addr × Obj) → Shared → (Value → Shared → Prop) → Prop} {d : Nat} (C : CT w f vs R d)
    {loose : List Str} {mean : ExcName → Option Value} {mg mb : Str → Option Value} {dp un : Nat} {gd : Option (List Code)} {cn : Str} {cs : Scope} {a : Addr} {ccd : Value} {cl : List (Str × Addr)} {outer : List Env} {A₀ : Around} {base h₀ : Heap} {L : Addr}
    {m : Str → Option Value} {news : List (Addr × Obj)} {s : Shared} {Q E : Value → Shared → Prop}
    (B : Below A₀ base outer h₀) (F : Fr h₀ L s.heap m) (X : (K w.params).In h₀) (N : News h₀ L s.heap news) (T : Top vq loose mean mg mb h₀) (hk : cs.kind = .function) (hd : dp + d < recursionLimit) (hu : un + 40 * d < cLine)
    (hR : R h₀ L m news s Q) : wpAny (model pw w) (ktrTop dp un gd cn cs L a ccd cl outer) (call (.ref f) vs) Q E s := C _ _ _ _ _ _ _ _ _ _ _ _ _ _ _ _ _ _ _ _ _ _ B F X N T hk hd hu hR

set_option maxHeartbeats 4000000 in
theorem b3_ct (w : World) (c : Nat) (tk : Tok) : CT w 60 [.str ⟨#[c]⟩ tk] (RetS (fold c)) := by
  have hrw : PySem.Challenge.rw_dw5011_01 = PySem.Challenge.rw_dw5011_01 ∧ K = K := ⟨rfl, rfl⟩
  revert hrw
  k_fill
  intro hrw loose mean mg mb dp un gd cn cs a ccd cl outer A₀ base h₀ L m news s Q E B F X N T hk hd hu hret
  refine wpAny_call ?_
  cell_enter
  dsimp only [FB2, rhsOf]
  k_steps
  · have e := fold_some (by assumption)
    rw [← e]; exact hret _ _ _ (by assumption) (by assumption)
  · have e := fold_none (by assumption)
    rw [← e]; exact hret _ _ _ (by assumption) (by assumption)
end Mine

end
section
open PySem PySem.W PyProof.Rows PySem.Calls PyProof.V PySem.Spec
namespace Mine
/-- the content after storing all these pairs -/
def putAll (c : List (Str × Int)) : List (Str × Int) → List (Str × Int)
  | [] => c
  | (k, v) :: r => putAll (kdpPut c k v) r
theorem putAll_len : ∀ {r c : List (Str × Int)}, (putAll c r).length ≤ c.length + r.length
  | [], c => by simp [putAll]
  | (k, v) :: r, c => by
    have h1 := putAll_len (r := r) (c := kdpPut c k v)
    have h2 := kdpPut_len c k v
    simp only [putAll, List.length_cons]
    omega
theorem putAll_snoc : ∀ {r c : List (Str × Int)} {k : Str} {v : Int}, putAll c (r ++ [(k, v)]) = kdpPut (putAll c r) k v
  | [], c, k, v => rfl
  | (a, b) :: r, c, k, v => putAll_snoc (r := r) (c := kdpPut c a b)
theorem putAll_app : ∀ {r t c : List (Str × Int)}, putAll c (r ++ t) = putAll (putAll c r) t
  | [], t, c => rfl
  | (a, b) :: r, t, c => putAll_app (r := r) (c := kdpPut c a b)
section
variable {prog : Program} {w : World} {A : Around} {E : Value → Shared → Prop} {s : Shared}
theorem dictPut_pairs {K : Type} [DecidableEq K] {knd : KeyKind prog w K} {d : Addr} {kvs : List (K × Value)} {k : K} {key v : Value} {Q : Unit → Shared → Prop} (hkey : knd.is k key = true) (hm : s.heap.DictOf knd d kvs)
    (hQ : ∀ h', h'.DictOf knd d (stored kvs k v) → Heap.SameBut d s.heap h' → Q () { s with heap := h' }) (hsz : kvs.length ≤ sizeLine) :
    wpAny (model prog w) A (dictPut d (knd.hash k) key v) Q E s := by
  obtain ⟨o, es, ep, ho, hc, hd, hk, hp, hn⟩ := hm
  have hes : es.size ≤ sizeLine := by have e1 := hp.length; have e2 : es.toList.length = es.size := by simp
                                      omega
  unfold dictPut
  refine wpAny_bind (wpAny_dictFind_of hkey ho hd hk ?_)
  have hidx : (es.findIdx? fun e => knd.is k e.key) = kvs.findIdx? fun kv => decide (kv.1 = k) := by
    rw [← hp.findIdx k]; obtain ⟨l⟩ := es; simp
  cases hi : es.findIdx? fun e => knd.is k e.key with
  | some i =>
    refine wpAny_updateDict ho hd (hQ _ ⟨_, _, ep, Heap.get?_update_self _ ho (Obj.isFreed_of_dict (Obj.data_mapDict hd _)),
      hc.mapDict _, Obj.data_mapDict hd _, hk.modify _ _, ?_, ?_⟩ (Heap.SameBut.update ..))
    · rw [stored, if_pos (any_of_findIdx_some (hidx ▸ hi))]
      have hl : (es.toList.findIdx? fun e => knd.is k e.key) = some i := by rw [← hi]; obtain ⟨l⟩ := es; simp
      have := hp.modify hn hl v
      obtain ⟨l⟩ := es
      simpa using this
    · rw [stored, if_pos (any_of_findIdx_some (hidx ▸ hi)), keys_map_store]; exact hn
  | none =>
    have hnot : k ∉ kvs.map (·.1) := not_mem_of_findIdx_none (hidx ▸ hi)
    have hany : ¬ (kvs.any fun kv => decide (kv.1 = k)) = true := by
      rw [List.any_eq_true]; rintro ⟨kv, hkv, he⟩
      exact hnot (List.mem_map.mpr ⟨kv, hkv, of_decide_eq_true he⟩)
    refine wpAny_updateDictKeys (hz := hes) ho hd (hQ _ ⟨_, _, ep + 1, Heap.get?_update_self _ ho (Obj.isFreed_of_dict (Obj.data_mapDictKeys hd _)),
      hc.mapDictKeys _, Obj.data_mapDictKeys hd _, hk.push hkey _, ?_, ?_⟩ (Heap.SameBut.update ..))
    · rw [stored, if_neg hany]
      have := hp.append hkey (knd.hash k) v
      obtain ⟨l⟩ := es
      simpa using this
    · rw [stored, if_neg hany, List.map_append, List.nodup_append]
      refine ⟨hn, by simp, ?_⟩
      intro a ha b hb
      simp only [List.map_cons, List.map_nil, List.mem_singleton] at hb
      subst hb
      exact fun e => hnot (e ▸ ha)
/-- one dict merged into another -/
theorem merge_pairs {K : Type} [DecidableEq K] {knd : KeyKind prog w K} {d o : Addr} {kvs more : List (K × Value)} {Q : Unit → Shared → Prop} (hdo : d ≠ o) (hoS : (o == sysModules) = false)
    (hd : s.heap.DictOf knd d kvs) (ho : s.heap.DictOf knd o more) (hne : kvs ≠ [])
    (hQ : ∀ h', h'.DictOf knd d (merged kvs more) → Heap.SameBut d s.heap h' → Q () { s with heap := h' })
    (hsz : kvs.length + more.length ≤ sizeLine) : wpAny (model prog w) A (mergeMapping d (.ref o) false) Q E s := by
  obtain ⟨od, esd, epd, hod, hcd, hdd, hkd, hpd, hnd⟩ := id hd
  obtain ⟨oo, eso, epo, hoo, hco, hdo', hko, hpo, hno⟩ := id ho
  have hlen : more.length = eso.size := by rw [← hpo.length]; simp
  unfold mergeMapping
  refine wpAny_bind (wpAny_bind (wpAny_typeOf ho.typeIs ?_))
  rw [dict_sub]
  refine wpAny_pure ?_
  rw [if_pos rfl]
  refine wpAny_bind (wpAny_specialOf ho.typeIs F.slot_dict_iter.lookup ?_)
  refine wpAny_bind (wpAny_pure ?_)
  rw [show (some (Value.builtin "dict.__iter__") == some (Value.builtin "dict.__iter__")) = true by decide +kernel]
  dsimp only
  rw [if_neg (by rw [hoS]; exact Bool.false_ne_true)]
  refine wpAny_bind (wpAny_dictEntries hod hdd ?_)
  rw [if_neg (by
    intro hemp
    have h0 : esd = #[] := Array.isEmpty_iff.mp hemp
    have := hpd.length; rw [h0] at this
    exact hne (List.length_eq_zero_iff.mp (by simpa using this.symm)))]
  refine wpAny_bind (wpAny_dictEntries hoo hdo' ?_)
  refine wpAny_bind (wpAny_dictEpoch hoo hdo' ?_)
  rw [List.range_eq_range']
  refine wpAny_bind ?_
  refine wpAny_forIn_list _
    (fun rest _ s' => ∃ h' i, s' = { s with heap := h' } ∧ rest = List.range' i (eso.size - i) ∧ i ≤ eso.size ∧ h'.DictOf knd d (merged kvs (more.take i)) ∧ h'.get? o = some oo ∧ Heap.SameBut d s.heap h')
    _ ?_ ?_ _ _ ⟨s.heap, 0, rfl, by simp, Nat.zero_le _, by simpa [merged] using hd, hoo, Heap.SameBut.refl _ _⟩
  · rintro x rest b s' ⟨h', i, rfl, hr, hi, hd', hoo', hs'⟩
    have hlt : i < eso.size := by
      rcases Nat.lt_or_ge i eso.size with h | h
      · exact h
      · rw [Nat.sub_eq_zero_of_le h] at hr; simp at hr
    obtain ⟨rfl, hrest⟩ : x = i ∧ rest = List.range' (i + 1) (eso.size - (i + 1)) := by
      have e : eso.size - i = (eso.size - (i + 1)) + 1 := by omega
      rw [e, List.range'_succ] at hr
      injection hr with h1 h2
      exact ⟨h1, h2⟩
    refine wpAny_bind (wpAny_dictEntries hoo' hdo' ?_)
    rw [Array.getElem?_eq_getElem hlt]
    obtain ⟨kv, hkv⟩ : ∃ kv, more[x]? = some kv := ⟨more[x]'(by rw [hlen]; exact hlt), List.getElem?_eq_getElem _⟩
    obtain ⟨k, v⟩ := kv
    obtain ⟨hkey, hval⟩ := hpo.get? (e := eso[x]) (by simp [hlt]) hkv
    obtain ⟨k', hkey', hhash⟩ := hko eso[x] (Array.getElem_mem hlt)
    obtain rfl : k' = k := knd.inj _ _ _ hkey' hkey
    dsimp only
    rw [hhash, hval]
    have hmx : (merged kvs (more.take x)).length ≤ sizeLine := by
      have e1 := merged_length_le kvs (more.take x)
      have e2 : (more.take x).length ≤ more.length := by rw [List.length_take]; omega
      omega
    refine wpAny_bind (wpAny_holding (dictPut_pairs (hsz := hmx) hkey hd' fun h'' hd'' hs'' => ?_))
    have hoo'' : h''.get? o = some oo := (hs''.2 o (Ne.symm hdo)).trans hoo'
    refine wpAny_bind (wpAny_dictEpoch hoo'' hdo' ?_)
    rw [if_neg (by simp)]
    exact wpAny_pure ⟨h'', x + 1, rfl, hrest, hlt, by rw [merged_take_succ kvs more x (k', v) hkv]; exact hd'', hoo'', hs'.trans hs''⟩
  · rintro b s' ⟨h', i, rfl, hr, hi, hd', hoo', hs'⟩
    have hin : i = eso.size := by
      rcases Nat.lt_or_ge i eso.size with h | h
      · have e : eso.size - i = (eso.size - (i + 1)) + 1 := by omega
        rw [e, List.range'_succ] at hr; exact nomatch hr
      · exact Nat.le_antisymm hi h
    refine wpAny_pure (hQ h' ?_ hs')
    rw [hin, ← hlen, List.take_length] at hd'; exact hd'
end
end Mine

end
section
open PySem PySem.W PyProof.Rows PySem.Calls PyProof.V PySem.Spec
namespace Mine
section
variable {prog : Program} {w : World} {A : Around} {E : Value → Shared → Prop} {s : Shared}
def GiveS (prog : Program) (w : World) (t : Sem Value) (x : Str) : Prop := ∀ (A : Around) (E : Value → Shared → Prop) (s : Shared) (Q : Value → Shared → Prop), (∀ tk n, Q (.str x tk) { s with toks := n }) → wpAny (model prog w) A t Q E s
def GiveI (prog : Program) (w : World) (t : Sem Value) (i : Int) : Prop := ∀ (A : Around) (E : Value → Shared → Prop) (s : Shared) (Q : Value → Shared → Prop), (∀ tk n, Q (.int i tk) { s with toks := n }) → wpAny (model prog w) A t Q E s
inductive PairsA (prog : Program) (w : World) : List PR → List (Str × Int) → Prop
  | nil : PairsA prog w [] []
  | cons {k v x i prs kv} : GiveS prog w k x → GiveI prog w v i → PairsA prog w prs kv → PairsA prog w ((k, v) :: prs) ((x, i) :: kv)
theorem PairsA.length {prs : List PR} {kv : List (Str × Int)} (h : PairsA prog w prs kv) : prs.length = kv.length := by
  induction h with
  | nil => rfl
  | cons _ _ _ ih => simp [ih]
theorem flat_merged {kvs : List (Str × Value)} {c : List (Str × Int)} (p : FlatPairs PyData.str kvs (kdpD c)) : ∀ {more : List (Str × Value)} {c2 : List (Str × Int)}, FlatPairs PyData.str more (kdpD c2) → FlatPairs PyData.str (merged kvs more) (kdpD (putAll c c2))
  | [], [], _ => p
  | [], _ :: _, q => by have := q.length; simp at this
  | _ :: _, [], q => by have := q.length; simp at this
  | (k, v) :: more, (k2, i) :: c2, q => by
    obtain ⟨h1, h2⟩ : (PyData.str k2 = PyData.str k ∧ Flat v (.int i)) ∧ FlatPairs PyData.str more (kdpD c2) := by
      cases q with
      | cons a b => exact ⟨⟨rfl, by assumption⟩, by assumption⟩
    obtain ⟨e, hv⟩ := h1
    cases e
    have p' := p.stored PyProof.V.same_str k hv
    rw [kdpD_put] at p'
    exact flat_merged p' h2
/-- a display's part of more than fifteen pairs -/
theorem subLong {prs : List PR} {kv : List (Str × Int)} {Q : Addr → Shared → Prop} (P : PairsA prog w prs kv) (hl : 15 < prs.length) (hz : kv.length ≤ 1000)
    (h : ∀ h' tk kvs, h'.DictOf (strKind prog w) s.heap.objs.size kvs → FlatPairs PyData.str kvs (kdpD (putAll [] kv)) → (∀ b o, s.heap.get? b = some o → h'.get? b = some o) → Q s.heap.objs.size { s with heap := h', toks := tk }) :
    wpAny (model prog w) A (subDict prs) Q E s := by
  unfold subDict
  refine wpAny_bind (wpAny_alloc ?_)
  refine wpAny_bind (wpAny_holding ?_)
  rw [if_neg (by omega)]
  refine wpAny_bind (wpAny_rule ?_)
  refine wpAny_bind ?_
  refine wpAny_forIn_list _ (fun rest _ s' => ∃ kr c h' tk kvs, PairsA prog w rest kr ∧ s' = { s with heap := h', toks := tk } ∧ h'.DictOf (strKind prog w) s.heap.objs.size kvs ∧ FlatPairs PyData.str kvs (kdpD c) ∧
    (∀ b o, s.heap.get? b = some o → h'.get? b = some o) ∧ c.length + kr.length ≤ 1000 ∧ putAll c kr = putAll [] kv) _ ?_ ?_ _ _
    ⟨kv, [], _, _, [], P, rfl, Heap.DictOf.new s.heap, FlatPairs.nil, fun b o e => Heap.get?_push_of_some _ e, by simpa using hz, rfl⟩
  · rintro ⟨k, v⟩ rest b s' ⟨kr, c, h', tk, kvs, hP, rfl, hd, hf, hk, hc, he⟩
    cases hP with
    | cons gk gv hP' =>
    rename_i x i kr'
    refine wpAny_bind (gk _ _ _ _ fun tk1 n1 => ?_)
    refine wpAny_bind (wpAny_holding (gv _ _ _ _ fun tk2 n2 => ?_))
    have hl2 : kvs.length ≤ 1000 := by have := hf.length; rw [kdpD_length] at this; simp only [List.length_cons] at hc; omega
    refine wpAny_bind (wpAny_holding (wpAny_dictSet_pairs (strKind_is prog w x tk1) hd (fun h'' hd'' hs'' => ?_) (Nat.le_trans hl2 (by decide))))
    refine wpAny_pure ?_
    have hf' := hf.stored PyProof.V.same_str x (PyProof.V.Flat.int i tk2)
    rw [kdpD_put] at hf'
    refine ⟨kr', kdpPut c x i, h'', _, _, hP', rfl, hd'', hf', fun b' o' e' => hs''.extBut b' o' (fun q => ?_) (hk b' o' e'), ?_, he⟩
    · rw [q] at e'
      exact absurd (Heap.lt_size e') (Nat.lt_irrefl _)
    · have := kdpPut_len c x i
      simp only [List.length_cons] at hc
      omega
  · rintro b s' ⟨kr, c, h', tk, kvs, hP, rfl, hd, hf, hk, hc, he⟩
    cases hP
    refine wpAny_pure (wpAny_pure (h h' tk kvs hd ?_ hk))
    rw [← he]; exact hf
theorem accA {F : List PR → Option Addr → Sem (Option Addr)} {B : Option (Sem Value) × Sem Value → Option Addr × List PR → Sem (ForInStep (Option Addr × List PR))}
    (hB : ∀ k v main run, B (some k, v) (main, run) = if ((run ++ [(k, v)]).length == 17) = true then (F (run ++ [(k, v)]) main >>= fun m => pure (ForInStep.yield (m, []))) else pure (ForInStep.yield (main, run ++ [(k, v)])))
    {rest : List (Option (Sem Value) × Sem Value)} {main : Option Addr} {Q : Option Addr × List PR → Shared → Prop} : ∀ (prs : List PR) (run : List PR) (_ : run.length + prs.length = 17) (_ : prs ≠ [])
    (_ : wpAny (model prog w) A (F (run ++ prs) main) (fun m s' => wpAny (model prog w) A (forIn rest (m, []) B) Q E s') E s),
    wpAny (model prog w) A (forIn (prs.map asItem ++ rest) (main, run) B) Q E s
  | [], _, _, hne, _ => absurd rfl hne
  | [x], run, hl, _, h => by
    simp only [List.map_cons, List.map_nil, List.cons_append, List.nil_append, List.forIn_cons]
    refine wpAny_bind ?_
    rw [hB, if_pos (by simpa using hl)]
    refine wpAny_bind ?_
    exact wpAny_mono h (fun m s' z => wpAny_pure z) fun _ _ e => e
  | x :: y :: r, run, hl, _, h => by
    simp only [List.map_cons, List.cons_append, List.forIn_cons]
    refine wpAny_bind ?_
    rw [hB, if_neg (by simp at hl ⊢; omega)]
    refine wpAny_pure ?_
    dsimp only
    have := accA hB (rest := rest) (main := main) (Q := Q) (y :: r) (run ++ [x]) (by simp at hl ⊢; omega) (by simp) (by simpa using h)
    simpa using this
/-- a flush onto a dict that stands -/
theorem flushA {F : List PR → Option Addr → Sem (Option Addr)} (hF : IsFlush F) {d : Addr} {prs : List PR} {kv c : List (Str × Int)} {kvs : List (Str × Value)} {Q : Option Addr → Shared → Prop} (P : PairsA prog w prs kv) (hl : kv.length = 17) (hd : s.heap.DictOf (strKind prog w) d kvs) (hf : FlatPairs PyData.str kvs (kdpD c))
    (hne : kvs ≠ []) (hc : c.length ≤ 500) (hsm : sysModules < s.heap.objs.size)
    (h : ∀ h' tk kvs', h'.DictOf (strKind prog w) d kvs' → FlatPairs PyData.str kvs' (kdpD (putAll c (putAll [] kv))) → kvs' ≠ [] → (∀ b o, b ≠ d → s.heap.get? b = some o → h'.get? b = some o) → s.heap.objs.size ≤ h'.objs.size → Q (some d) { s with heap := h', toks := tk }) :
    wpAny (model prog w) A (F prs (some d)) Q E s := by
  obtain ⟨g, hg⟩ := hF.next prs d (by intro e; have := P.length; rw [e, hl] at this; simp at this)
  rw [hg]
  have hdlt : d < s.heap.objs.size := by obtain ⟨o, ho, _⟩ := Heap.dictOf_iff.mp hd; exact Heap.lt_size ho
  have hpl := P.length
  refine wpAny_bind (wpAny_holding (subLong P (by omega) (by omega) fun h1 tk1 kvs2 hd2 hf2 hk => ?_))
  refine wpAny_bind (wpAny_onRaise (wpAny_holding ?_))
  have hd1 := hd.keep hk
  have l1 := hf.length
  have l2 := hf2.length
  rw [kdpD_length] at l1 l2
  have l3 := putAll_len (r := kv) (c := [])
  simp only [List.length_nil] at l3
  refine merge_pairs (s := { s with heap := h1, toks := tk1 }) (Nat.ne_of_lt hdlt) (beq_eq_false_iff_ne.mpr (Nat.ne_of_gt hsm)) hd1 hd2 hne (fun h2 hm hs2 => ?_) (Nat.le_trans (show kvs.length + kvs2.length ≤ 2000 by omega) (by decide))
  refine wpAny_pure (h h2 tk1 _ hm (flat_merged hf hf2) ?_ (fun b o hb e => hs2.extBut b o hb (hk b o e)) ?_)
  · intro e
    have := (flat_merged hf hf2).length
    rw [e, kdpD_length] at this
    simp only [List.length_nil] at this
    have l4 : 1 ≤ c.length := by rw [l1]; exact List.length_pos_iff.mpr hne
    have l5 : ∀ (r c : List (Str × Int)), c.length ≤ (putAll c r).length := by
      intro r
      induction r with
      | nil => intro c; exact Nat.le_refl _
      | cons q r ih =>
        intro c
        obtain ⟨k, v⟩ := q
        refine Nat.le_trans ?_ (ih (kdpPut c k v))
        unfold kdpPut
        split
        · rw [List.length_map]; exact Nat.le_refl _
        · rw [List.length_append]; omega
    have := l5 (putAll [] kv) c
    omega
  · have e1 : h2.objs.size = h1.objs.size := hs2.1
    obtain ⟨o2, ho2, _⟩ := Heap.dictOf_iff.mp hd2
    have := Heap.lt_size ho2
    show _ ≤ h2.objs.size
    rw [e1]
    exact Nat.le_of_lt this
/-- a display of three times seventeen pairs -/
theorem disp51 {h₀ : Heap} {L : Addr} {m : Str → Option Value} {news : List (Addr × Obj)} {keys : List (Option PySem.Expr)} {values : List PySem.Expr} {pos : Pos} {env : Env} {P1 P2 P3 : List PR} {g1 g2 g3 : List (Str × Int)} {Q : Value → Shared → Prop}
    (F : Fr h₀ L s.heap m) (N : News h₀ L s.heap news) (hbig : h₀.NoLimit) (p1 : PairsA prog w P1 g1) (p2 : PairsA prog w P2 g2) (p3 : PairsA prog w P3 g3) (l1 : g1.length = 17) (l2 : g2.length = 17) (l3 : g3.length = 17)
    (hsh : (evalEachOpt keys env).zip ((evalEach values env).map fun v => do let x ← v; standAt pos; pure x) = P1.map asItem ++ (P2.map asItem ++ (P3.map asItem ++ [])))
    (h : ∀ d h' o kvs tk, Fr h₀ L h' m → News h₀ L h' ((d, o) :: news) → (∀ p ∈ news, p.1 < d) → (d == sysModules) = false → o.IsDictOf (strKind prog w) kvs → FlatPairs PyData.str kvs (kdpD (putAll (putAll (putAll [] g1) (putAll [] g2)) (putAll [] g3))) → Q (.ref d) { s with heap := h', toks := tk }) :
    wpAny (model prog w) A (eval (.Dict keys values pos) env) Q E s := by
  rw [arm_eval_Dict, hsh]
  refine wpAny_bind (wpAny_standAt ?_)
  unfold dictDisplay
  extract_lets flush main run
  have hF : IsFlush flush := by
    refine ⟨fun run hr => ?_, fun run d hr => ⟨fun _ x => do let _ ← holding [Value.ref d, x] (runValue (Code.builtin "proto.let_go" {})); pure (), ?_⟩⟩
    · show (if run.isEmpty = true then _ else _) = _
      rw [if_neg (by simpa using hr)]
    · show (if run.isEmpty = true then _ else _) = _
      rw [if_neg (by simpa using hr)]
  have hsm := modules_low hbig
  have hlt : sysModules < s.heap.objs.size := Nat.lt_trans hsm (Nat.lt_of_le_of_lt F.above F.ns.lt)
  have ne1 : P1 ≠ [] := by intro e; have := p1.length; rw [e, l1] at this; simp at this
  have ne2 : P2 ≠ [] := by intro e; have := p2.length; rw [e, l2] at this; simp at this
  have ne3 : P3 ≠ [] := by intro e; have := p3.length; rw [e, l3] at this; simp at this
  have e1 := p1.length
  have e2 := p2.length
  have e3 := p3.length
  refine wpAny_bind ?_
  refine accA (F := flush) (fun k v main run => rfl) P1 [] (by simpa [e1] using l1) ne1 ?_
  rw [List.nil_append, hF.first P1 ne1]
  refine wpAny_bind (subLong p1 (by omega) (by omega) fun h1 tk1 kvs1 hd1 hf1 hk1 => ?_)
  refine wpAny_pure ?_
  have c1 := putAll_len (r := g1) (c := [])
  have c2 := putAll_len (r := g2) (c := [])
  simp only [List.length_nil] at c1 c2
  have n1 : kvs1 ≠ [] := by
    intro e
    have := hf1.length
    rw [e, kdpD_length] at this
    match g1, l1 with
    | (a, b) :: r, _ =>
      have l5 : ∀ (r c : List (Str × Int)), c.length ≤ (putAll c r).length := by
        intro r
        induction r with
        | nil => intro c; exact Nat.le_refl _
        | cons q r ih =>
          intro c
          obtain ⟨k, v⟩ := q
          refine Nat.le_trans ?_ (ih (kdpPut c k v))
          unfold kdpPut
          split
          · rw [List.length_map]; exact Nat.le_refl _
          · rw [List.length_append]; omega
      have h5 := l5 r (kdpPut [] a b)
      have h6 : (kdpPut [] a b).length = 1 := rfl
      simp only [List.length_nil, putAll] at this
      omega
  have s1 : s.heap.objs.size < h1.objs.size := by obtain ⟨o, ho, _⟩ := Heap.dictOf_iff.mp hd1; exact Heap.lt_size ho
  refine accA (F := flush) (fun k v main run => rfl) P2 [] (by simpa [e2] using l2) ne2 ?_
  rw [List.nil_append]
  refine flushA hF p2 l2 hd1 hf1 n1 (by omega) (Nat.lt_trans hlt s1) fun h2 tk2 kvs2 hd2 hf2 n2 hk2 hs2 => ?_
  have c3 := putAll_len (r := putAll [] g2) (c := putAll [] g1)
  refine accA (F := flush) (fun k v main run => rfl) P3 [] (by simpa [e3] using l3) ne3 ?_
  rw [List.nil_append]
  refine flushA hF p3 l3 hd2 hf2 n2 (by omega) (Nat.lt_of_lt_of_le (Nat.lt_trans hlt s1) hs2) fun h3 tk3 kvs3 hd3 hf3 n3 hk3 hs3 => ?_
  rw [List.forIn_nil]
  refine wpAny_pure ?_
  refine wpAny_bind (wpAny_pure ?_)
  refine wpAny_pure ?_
  have keep : ∀ b o, s.heap.get? b = some o → h3.get? b = some o := fun b o e => by
    have hb : b ≠ s.heap.objs.size := Nat.ne_of_lt (Heap.lt_size e)
    exact hk3 b o hb (hk2 b o hb (hk1 b o e))
  obtain ⟨o, ho, hdo⟩ := Heap.dictOf_iff.mp hd3
  refine h _ h3 o kvs3 tk3 (F.keeps keep) (fun p hp => ?_) (fun p hp => Heap.lt_size (N p hp).1) (F.notModules hsm) hdo hf3
  rcases List.mem_cons.mp hp with rfl | hp
  · exact ⟨ho, Nat.ne_of_gt F.ns.lt, next_is_new F⟩
  · exact N.grown keep p hp
end
end Mine

end
section
open PySem PySem.W PyProof.Rows PySem.Calls PyProof.V PySem.Spec
namespace Mine
def txtOf : Option PySem.Expr → Option Str
  | some (.Constant (.str x) _ _) => some x
  | _ => none
def numOf' : PySem.Expr → Option Int
  | .Constant (.int i) _ _ => some i
  | _ => none
def kvS : List (Option PySem.Expr) → List PySem.Expr → Option (List (Str × Int))
  | [], [] => some []
  | k :: ks, v :: vs => match txtOf k, numOf' v, kvS ks vs with
    | some x, some i, some r => some ((x, i) :: r)
    | _, _, _ => none
  | _, _ => none
theorem txtOf_some {k : Option PySem.Expr} {x : Str} (h : txtOf k = some x) : ∃ a b, k = some (.Constant (.str x) a b) := by
  unfold txtOf at h
  split at h
  · cases h; exact ⟨_, _, rfl⟩
  · cases h
theorem numOf_some {v : PySem.Expr} {i : Int} (h : numOf' v = some i) : ∃ a b, v = .Constant (.int i) a b := by
  unfold numOf' at h
  split at h
  · cases h; exact ⟨_, _, rfl⟩
  · cases h
section
variable {prog : Program} {w : World} {A : Around} {E : Value → Shared → Prop} {s : Shared}
theorem prs_ofS (prog : Program) (w : World) : ∀ {ks : List (Option PySem.Expr)} {vs : List PySem.Expr} {kv : List (Str × Int)} (env : Env) (dp : Pos), kvS ks vs = some kv →
    (evalEachOpt ks env).zip ((evalEach vs env).map fun v => do let x ← v; standAt dp; pure x) = (prsOf ks vs env dp).map asItem ∧ PairsA prog w (prsOf ks vs env dp) kv
  | [], [], kv, env, dp, h => by
    simp only [kvS, Option.some.injEq] at h
    subst h
    exact ⟨rfl, .nil⟩
  | k :: ks, v :: vs, kv, env, dp, h => by
    unfold kvS at h
    split at h
    · rename_i i x r h1 h2 h3
      cases h
      obtain ⟨a, b, rfl⟩ := txtOf_some h1
      obtain ⟨a', b', rfl⟩ := numOf_some h2
      obtain ⟨e1, e2⟩ := prs_ofS prog w (ks := ks) (vs := vs) env dp h3
      refine ⟨?_, .cons (fun A E s Q hq => wpAny_Constant_str (hq _ _)) (fun A E s Q hq => wpAny_bind (wpAny_Constant_int (wpAny_bind (wpAny_standAt (wpAny_pure (hq _ _)))))) e2⟩
      simp only [evalEachOpt, evalEach, List.map_cons, List.zip_cons_cons, prsOf]
      rw [e1]
      rfl
    · cases h
  | [], _ :: _, _, _, _, h => by simp [kvS] at h
  | _ :: _, [], _, _, _, h => by simp [kvS] at h
theorem PairsA.take {prs : List PR} {kv : List (Str × Int)} (h : PairsA prog w prs kv) : ∀ n, PairsA prog w (prs.take n) (kv.take n) := by
  induction h with
  | nil => intro n; simp only [List.take_nil]; exact .nil
  | cons a b _ ih => intro n; cases n with
    | zero => exact .nil
    | succ n => exact .cons a b (ih n)
theorem PairsA.drop {prs : List PR} {kv : List (Str × Int)} (h : PairsA prog w prs kv) : ∀ n, PairsA prog w (prs.drop n) (kv.drop n) := by
  induction h with
  | nil => intro n; simp only [List.drop_nil]; exact .nil
  | cons a b c ih => intro n; cases n with
    | zero => exact .cons a b c
    | succ n => exact ih n
def c51 (kv : List (Str × Int)) : List (Str × Int) := putAll (putAll (putAll [] (kv.take 17)) (putAll [] ((kv.drop 17).take 17))) (putAll [] ((kv.drop 17).drop 17))
theorem disp_of {h₀ : Heap} {L : Addr} {m : Str → Option Value} {news : List (Addr × Obj)} {keys : List (Option PySem.Expr)} {values : List PySem.Expr} {pos : Pos} {env : Env} {kv : List (Str × Int)} {Q : Value → Shared → Prop}
    (hkv : kvS keys values = some kv) (hlen : kv.length = 51) (F : Fr h₀ L s.heap m) (N : News h₀ L s.heap news) (hbig : h₀.NoLimit)
    (h : ∀ d h' o kvs tk, Fr h₀ L h' m → News h₀ L h' ((d, o) :: news) → (∀ p ∈ news, p.1 < d) → (d == sysModules) = false → o.IsDictOf (strKind prog w) kvs → FlatPairs PyData.str kvs (kdpD (c51 kv)) → Q (.ref d) { s with heap := h', toks := tk }) :
    wpAny (model prog w) A (eval (.Dict keys values pos) env) Q E s := by
  obtain ⟨e, P⟩ := prs_ofS prog w env pos hkv
  refine disp51 F N hbig (P.take 17) ((P.drop 17).take 17) ((P.drop 17).drop 17) (by simp [hlen]) (by simp [hlen]) (by simp [hlen]) ?_ h
  rw [e, List.append_nil, ← List.map_append, ← List.map_append, List.take_append_drop, List.take_append_drop]
end
end Mine

end
section
open PySem PySem.W PyProof.Rows PySem.Calls PyProof.V
open Mine
namespace Mine
def Stop (P : Prop) : Prop := P
theorem Stop.out {P : Prop} (h : Stop P) : P := h
theorem gen_toks {M : Model} {A : Around} {α : Type} {t : Sem α} {Q : α → Shared → Prop} {E : Value → Shared → Prop} {h : Heap} {g : Shared} {X : Nat} (H : ∀ tk, wpAny M A t Q E { g with heap := h, toks := tk }) : wpAny M A t Q E { g with heap := h, toks := X } := H X
@[irreducible] def dK6 : List (Option PySem.Expr) := match fBody (stm 6) with | [.Return (some (.Dict ks _ _)) _] => ks | _ => []
@[irreducible] def dV6 : List PySem.Expr := match fBody (stm 6) with | [.Return (some (.Dict _ vs _)) _] => vs | _ => []
@[irreducible] def dP6 : Pos := match fBody (stm 6) with | [.Return (some (.Dict _ _ p)) _] => p | _ => q0
@[irreducible] def rP6 : Pos := match fBody (stm 6) with | [.Return (some (.Dict _ _ _)) p] => p | _ => q0
theorem fb6 : FB6 = [.Return (some (.Dict dK6 dV6 dP6)) rP6] := by kernel_rfl
@[irreducible] def countKV : List (Str × Int) := (kvS dK6 dV6).getD []
theorem count_kv : kvS dK6 dV6 = some countKV := by kernel_rfl
theorem count_len : countKV.length = 51 := by kernel_rfl
def countC : List (Str × Int) := c51 countKV
/-- a fresh dict with this content -/
abbrev RetD (w : World) (c : List (Str × Int)) : Heap → Addr → (Str → Option Value) → List (Addr × Obj) → Shared → (Value → Shared → Prop) → Prop := fun h₀ L m news s Q =>
  ∀ (d : Addr) (o : Obj) (kvs : List (Str × Value)) (h' : Heap) (tk' : Nat), Fr h₀ L h' m → News h₀ L h' ((d, o) :: news) → (∀ p ∈ news, p.1 < d) → (d == sysModules) = false → o.IsDictOf (strKind pw w) kvs → FlatPairs PyData.str kvs (kdpD c) → Q (.ref d) { s with heap := h', toks := tk' }
theorem count_disp (w : World) {A : Around} {E : Value → Shared → Prop} {s : Shared} {h₀ : Heap} {L : Addr} {m : Str → Option Value} {news : List (Addr × Obj)} {env : Env} {Q : Value → Shared → Prop}
    (F : Fr h₀ L s.heap m) (N : News h₀ L s.heap news) (hbig : h₀.NoLimit)
    (h : ∀ d h' o kvs tk, Fr h₀ L h' m → News h₀ L h' ((d, o) :: news) → (∀ p ∈ news, p.1 < d) → (d == sysModules) = false → o.IsDictOf (strKind pw w) kvs → FlatPairs PyData.str kvs (kdpD countC) → Q (.ref d) { s with heap := h', toks := tk }) :
    wpAny (model pw w) A (eval (.Dict dK6 dV6 dP6) env) Q E s := by
  have e := count_kv
  have l := count_len
  revert h
  unfold countC
  generalize countKV = kv at e l ⊢
  intro h
  generalize dK6 = ks at e ⊢
  generalize dV6 = vs at e ⊢
  exact disp_of e l F N hbig h
end Mine
local macro_rules | `(tactic| walk_at "execs cons") => `(tactic| (k_here; (with_reducible show wpAny _ _ _ _ _ { heap := _, gens := _, drawn := _, toks := _ + 1, os := _ }); k_dflt (refine Mine.gen_toks ?_); intro tk))
local macro_rules | `(tactic| walk_at "execs nil") => `(tactic| (k_here; (with_reducible show wpAny _ _ _ _ _ { heap := _, gens := _, drawn := _, toks := _ + 1, os := _ }); k_dflt (refine Mine.gen_toks ?_); intro tk))
local macro_rules | `(tactic| walk_at "eval Dict") => `(tactic| (k_here; refine Stop.out ?_; walk_say "STOP AT DICT"))
namespace Mine
set_option maxHeartbeats 4000000 in
theorem count_ct (w : World) : CT w 69 [] (RetD w countC) := by
  have hrw : PySem.Challenge.rw_dw5011_01 = PySem.Challenge.rw_dw5011_01 ∧ K = K := ⟨rfl, rfl⟩
  revert hrw
  k_fill
  intro hrw loose mean mg mb dp un gd cn cs a ccd cl outer A₀ base h₀ L m news s Q E B F X N T hk hd hu hret
  refine wpAny_call ?_
  cell_enter
  rw [fb6]
  k_steps
  unfold Stop
  rename Fr _ _ _ _ => F1
  rename News _ _ _ _ => N1
  rename Top _ _ _ _ _ _ => T1
  refine count_disp w F1 N1 T1.nolimit (fun d h' o kvs tk F' N' lt lo hdo hf => ?_)
  k_steps
  rename Fr _ _ _ _ => kF
  rename News _ _ _ _ => kN
  exact hret d o kvs h' tk kF kN lt lo hdo hf
end Mine

end
section
open PySem PySem.W PyProof.Rows PySem.Calls PyProof.V
open Mine
namespace Mine
def sig (x : Str) : Int := if (x.length : Int) = 1 then 3 else kdpLook countC x 0
theorem len_small {prog : Program} {w : World} {A : Around} {E : Value → Shared → Prop} {s : Shared} {x : Str} {t : Tok} {Q : Value → Shared → Prop} (hx : x.length ≤ 100) (h : ∀ u, Q (.int x.length u) { s with toks := s.toks + 1 + 1 }) : wpAny (model prog w) A (call (.builtin "len") [.str x t]) Q E s :=
  PyProof.Rows.len_str (by omega) (h _)
end Mine
local macro_rules | `(tactic| walk_at "call builtin:len") => `(tactic| (k_here; (with_reducible show wpAny _ _ (call (Value.builtin "len") [Value.str _ _]) _ _ _); k_dflt (refine Mine.len_small (by with_reducible assumption) ?_); intro tu))
local macro_rules | `(tactic| walk_at "execs cons") => `(tactic| (k_here; (with_reducible show wpAny _ _ _ _ _ { heap := _, gens := _, drawn := _, toks := _ + 1, os := _ }); k_dflt (refine Mine.gen_toks ?_); intro tk))
local macro_rules | `(tactic| walk_at "execs nil") => `(tactic| (k_here; (with_reducible show wpAny _ _ _ _ _ { heap := _, gens := _, drawn := _, toks := _ + 1, os := _ }); k_dflt (refine Mine.gen_toks ?_); intro tk))
local macro_rules | `(tactic| walk_at "eval Call") => `(tactic| (k_here; k_dflt (refine Call_ ?_)))
local macro_rules | `(tactic| walk_at "call ref") => `(tactic| (k_here; k_dflt (show wpAny _ _ (call (Value.ref 69) []) _ _ _); k_dflt (refine' CT.use (count_ct _) ?k1 ?k2 ?k3 ?k4 ?k5 ?kK ?kd ?ku ?kR); (case k1 => k_asm); (case k2 => k_asm); (case k3 => k_asm); (case k4 => k_asm); (case k5 => k_asm); (case kK => k_dflt (first | exact rfl | assumption)); (case kd => k_dflt ktr_room); (case ku => k_dflt ktr_units); k_whole; walk_say "COUNT"; intro d' o' kvs' h' tk' F' N' l1 lo' hd' hf'; (try k_lt l1); (try k_sweep)))
namespace Mine
set_option maxHeartbeats 4000000 in
theorem signs_ct (w : World) (x : Str) (tk : Tok) (hx : x.length ≤ 100) : CT w 90 [.str x tk] (RetP (· = sig x)) 6 := by
  have hrw : PySem.Challenge.rw_dw5011_01 = PySem.Challenge.rw_dw5011_01 ∧ K = K := ⟨rfl, rfl⟩
  revert hrw
  k_fill
  intro hrw loose mean mg mb dp un gd cn cs a ccd cl outer A₀ base h₀ L m news s Q E B F X N T hk hd hu hret
  refine wpAny_call ?_
  cell_enter
  dsimp only [FB9, rhsOf]
  k_steps
  all_goals (refine hret _ _ _ _ ?_ (by assumption) (by first | assumption | exact fun p hp => (show News _ _ _ (_ :: _) from by assumption) p (List.mem_cons_of_mem _ hp)))
  · unfold sig; rw [if_pos (by assumption)]
  · unfold sig; rw [if_neg (by assumption)]
end Mine

end
section
open PySem PySem.W PyProof.Rows PySem.Calls PyProof.V
open Mine
namespace Mine
def signsL : List Int := [13171, 13251, 13256, 64256, 64259, 64260, 64257, 64258, 13191, 13203, 13228, 13257, 13259, 13169, 13200, 13188, 13189, 13201, 13261, 13262, 13226, 13240, 13246, 13187, 13190, 13202, 13227, 13239, 13241, 13245, 13247, 13185, 13195, 8470, 13237, 13243, 13173, 13184, 13225, 13194, 13271, 13273, 13274, 13236, 13242, 8360, 8480, 223, 64261, 64262, 13276, 8481, 13204, 8482, 13277]
abbrev signsW : List Value := [(Value.int (13171) 2150), (Value.int (13251) 2151), (Value.int (13256) 2152), (Value.int (64256) 2153), (Value.int (64259) 2154), (Value.int (64260) 2155), (Value.int (64257) 2156), (Value.int (64258) 2157), (Value.int (13191) 2158), (Value.int (13203) 2159), (Value.int (13228) 2160), (Value.int (13257) 2161), (Value.int (13259) 2162), (Value.int (13169) 2163), (Value.int (13200) 2164), (Value.int (13188) 2165), (Value.int (13189) 2166), (Value.int (13201) 2167), (Value.int (13261) 2168), (Value.int (13262) 2169), (Value.int (13226) 2170), (Value.int (13240) 2171), (Value.int (13246) 2172), (Value.int (13187) 2173), (Value.int (13190) 2174), (Value.int (13202) 2175), (Value.int (13227) 2176), (Value.int (13239) 2177), (Value.int (13241) 2178), (Value.int (13245) 2179), (Value.int (13247) 2180), (Value.int (13185) 2181), (Value.int (13195) 2182), (Value.int (8470) 2183), (Value.int (13237) 2184), (Value.int (13243) 2185), (Value.int (13173) 2186), (Value.int (13184) 2187), (Value.int (13225) 2188), (Value.int (13194) 2189), (Value.int (13271) 2190), (Value.int (13273) 2191), (Value.int (13274) 2192), (Value.int (13236) 2193), (Value.int (13242) 2194), (Value.int (8360) 2195), (Value.int (8480) 2196), (Value.int (223) 2197), (Value.int (64261) 2198), (Value.int (64262) 2199), (Value.int (13276) 2200), (Value.int (8481) 2201), (Value.int (13204) 2202), (Value.int (8482) 2203), (Value.int (13277) 2204)]
theorem signs_ints : IntsAre signsW signsL := by unfold signsL; repeat' first | exact IntsAre.nil | apply IntsAre.cons
theorem tup61 {P : Params} {h : Heap} (X : (K P).In h) : IsTup h 61 (List.toArray signsW) := ⟨_, X 61 ⟨.type "tuple", none, .seq (List.toArray signsW) 0, #[]⟩ (by kernel_rfl), rfl, 0, rfl⟩
theorem signs_range : ∀ c ∈ signsL, 0 ≤ c ∧ c < 1114112 := by decide
def bookStep (c : List (Str × Int)) (code : Int) : List (Str × Int) := kdpPut c (fold code.toNat) (kdpLook c (fold code.toNat) 0 + 1)
theorem bookStep_len {c : List (Str × Int)} {code : Int} : (bookStep c code).length ≤ c.length + 1 := kdpPut_len _ _ _
@[irreducible] def book1 : List (Str × Int) := signsL.foldl bookStep []
theorem book1_eq : signsL.foldl bookStep [] = book1 := by unfold book1; rfl
def three (k : Int) : List Int := [97 + k, 65 + k, 119808 + k]
@[irreducible] def bookC : List (Str × Int) := ((List.range 26).flatMap fun (k : Nat) => three (k : Int)).foldl bookStep book1
def B1 (w : World) (d : Addr) (news0 : List (Addr × Obj)) (l : List Value) (m : Str → Option Value) (news : List (Addr × Obj)) : Prop := ∃ (u : Str → Option Value) (o : Obj) (kvs : List (Str × Value)) (c : List (Str × Int)) (rest : List Int), m = (fun y => if y = Str.ofString "book" then some (.ref d) else u y) ∧ news = (d, o) :: news0 ∧ o.IsDictOf (strKind pw w) kvs ∧ FlatPairs PyData.str kvs (kdpD c) ∧ IntsAre l rest ∧ (∀ x ∈ rest, 0 ≤ x ∧ x < 1114112) ∧ c.length + rest.length ≤ 55 ∧ rest.foldl bookStep c = book1
@[irreducible] def upto (i : Nat) : List (Str × Int) := ((List.range i).flatMap fun (k : Nat) => three (k : Int)).foldl bookStep book1
theorem bookC_eq : bookC = upto 26 := by unfold bookC upto; rfl
theorem upto_zero : book1 = upto 0 := by
  unfold upto
  rw [List.range_zero, List.flatMap_nil, List.foldl_nil]
theorem upto_succ (i : Nat) : upto (i + 1) = (three (i : Int)).foldl bookStep (upto i) := by
  unfold upto
  rw [List.range_succ, List.flatMap_append, List.foldl_append, List.flatMap_cons, List.flatMap_nil, List.append_nil]
def B2 (w : World) (d : Addr) (news0 : List (Addr × Obj)) (i : Nat) (m : Str → Option Value) (news : List (Addr × Obj)) : Prop := ∃ (u : Str → Option Value) (o : Obj) (kvs : List (Str × Value)) (c : List (Str × Int)), m = (fun y => if y = Str.ofString "book" then some (.ref d) else u y) ∧ news = (d, o) :: news0 ∧ o.IsDictOf (strKind pw w) kvs ∧ FlatPairs PyData.str kvs (kdpD c) ∧ c.length ≤ 55 + 3 * i ∧ c = upto i
def B3 (w : World) (d T R : Addr) (lo it : Obj) (news0 : List (Addr × Obj)) (n : Nat) (tgt : List (Str × Int)) (l : List Value) (m : Str → Option Value) (news : List (Addr × Obj)) : Prop := ∃ (u : Str → Option Value) (o : Obj) (kvs : List (Str × Value)) (c : List (Str × Int)) (rest : List Int), m = (fun y => if y = Str.ofString "book" then some (.ref d) else u y) ∧ news = (T, lo) :: (R, it) :: (d, o) :: news0 ∧ o.IsDictOf (strKind pw w) kvs ∧ FlatPairs PyData.str kvs (kdpD c) ∧ IntsAre l rest ∧ (∀ x ∈ rest, 0 ≤ x ∧ x < 1114112) ∧ c.length + rest.length ≤ n ∧ rest.foldl bookStep c = tgt
end Mine
local macro_rules | `(tactic| walk_at "execs cons") => `(tactic| (k_here; (with_reducible show wpAny _ _ _ _ _ { heap := _, gens := _, drawn := _, toks := _ + 1, os := _ }); k_dflt (refine Mine.gen_toks ?_); intro tk))
local macro_rules | `(tactic| walk_at "execs nil") => `(tactic| (k_here; (with_reducible show wpAny _ _ _ _ _ { heap := _, gens := _, drawn := _, toks := _ + 1, os := _ }); k_dflt (refine Mine.gen_toks ?_); intro tk))
local macro_rules | `(tactic| walk_at "eval Call") => `(tactic| (k_here; k_dflt (refine Call_ ?_)))
local macro_rules | `(tactic| walk_at "exec For") => `(tactic| (k_here; (rename Fr _ _ _ _ => lF'); (with_unfolding_all refine' For_invVF lF' ?k1 ?k2 ?_; (case k1 => exact rfl); (case k2 => exact rfl); k_whole)))
local macro_rules | `(tactic| walk_at "exec For Name Name cons nil") => `(tactic| (k_here; (rename Fr _ _ _ _ => lF'); (with_unfolding_all refine' For_invVF lF' ?k1 ?k2 ?_; (case k1 => exact rfl); (case k2 => exact rfl); k_whole)))
local macro_rules | `(tactic| walk_at "exec For Name Tuple cons nil") => `(tactic| (k_here; (rename Fr _ _ _ _ => lF'); (with_unfolding_all refine' For_invVF lF' ?k1 ?k2 ?_; (case k1 => exact rfl); (case k2 => exact rfl); k_whole)))
local macro_rules | `(tactic| walk_at "pyIter ref") => `(tactic| (k_here; refine Stop.out ?_; walk_say "STOP AT ITER"))
local macro_rules | `(tactic| walk_at "UnrEnd") => `(tactic| (k_here; refine Stop.out ?_; walk_say "STOP AT UNREND"))
local macro_rules | `(tactic| walk_at "call ref") => `(tactic| (k_here; refine Stop.out ?_; walk_say "STOP AT CALL"))
namespace Mine
set_option maxHeartbeats 4000000 in
theorem book_ct (w : World) : CT w 76 [] (RetD w bookC) 6 := by
  have hrw : PySem.Challenge.rw_dw5011_01 = PySem.Challenge.rw_dw5011_01 ∧ K = K := ⟨rfl, rfl⟩
  revert hrw
  k_fill
  intro hrw loose mean mg mb dp un gd cn cs a ccd cl outer A₀ base h₀ L m news s Q E B F X N T hk hd hu hret
  refine wpAny_call ?_
  cell_enter
  dsimp only [FB7, rhsOf]
  k_steps
  unfold Stop
  rename_i g1 L1 hg FG BB XX TT d0 hA o0 ld lo hs fs hi fi hB FB NB tkB
  refine iter_tupB (by rfl) FB NB (tup61 XX) (fun Iad hI0 => ?_)
  refine tup_ind (I := Mine.B1 w d0 news) ?turn1 ?fin1 _ _ _ ⟨_, o0, [], [], signsL, canonM1 (by with_unfolding_all rfl), rfl, hs, fs, signs_ints, signs_range, (by decide), book1_eq⟩
  case turn1 =>
    rintro v r _ _ ⟨u, o, kvs, c, rest, rfl, rfl, hdo, hf, hI, hr, hlen, hfin⟩ it h7 tk7 F2 N2
    clear FB NB hs fs hi fi
    cases hI with
    | cons x t hI' =>
    rename_i ns
    obtain ⟨hx0, hx1⟩ := hr x (List.mem_cons_self ..)
    have hcl : c.length ≤ 55 := by omega
    k_steps
    unfold Stop
    refine' CT.use (b3_ct _ _ _) BB F2 ?ya N2 ?yb ?yc ?yd ?ye ?yf
    case ya => k_asm
    case yb => k_asm
    case yc => exact rfl
    case yd => ktr_room
    case ye => ktr_units
    intro t' h' tk' F' N'
    k_sweep
    k_steps
    rename Fr _ _ _ _ => F3
    rename News _ _ _ _ => N3
    have hne : Iad ≠ d0 := Nat.ne_of_gt (hI0 (d0, o0) (List.mem_cons_self ..))
    refine kdp_setItem (k := fold x.toNat) F3 N3 (.tail hne (.head fun p hp => Nat.ne_of_lt (ld p hp))) hdo hf (by omega) (fun h8 o8 kvs8 F8 N8 hd8 hf8 => ?_)
    k_steps
    unfold Stop
    refine unrEnd_lt F8 N8 ((d0, o8) :: news) (List.mem_cons_self ..) (fun p hp => List.mem_cons_of_mem _ hp) (fun p hp => ?_) ⟨trivial, _, o8, kvs8, bookStep c x, ns, canonM1 (by with_unfolding_all rfl), rfl, hd8, hf8, hI', (fun z hz => hr z (List.mem_cons_of_mem _ hz)), ?_, hfin⟩
    · rcases List.mem_cons.mp hp with rfl | hp
      · exact .inl (hI0 (d0, o0) (List.mem_cons_self ..))
      · exact .inl (hI0 p (List.mem_cons_of_mem _ hp))
    · have := bookStep_len (c := c) (code := x)
      simp only [List.length_cons] at hlen
      omega
  rintro _ _ ⟨u, o, kvs, c, rest, rfl, rfl, hdo, hf, hI, hr, hlen, hfin⟩ h7 tk7 F2 N2
  clear FB NB hs fs hi fi hI0
  cases hI
  have hcb : c = book1 := hfin
  k_steps
  unfold Stop
  rename IsRange _ _ _ _ _ _ _ _ => hR
  rename Fr _ _ _ _ => FR
  rename News _ _ _ _ => NR
  refine iter_rangeUnr (n := 26) (by rfl) hR ?s1 ?s2 FR NR (fun Rad hR0 => ?_)
  case s1 => rfl
  case s2 => rfl
  refine range_ind (I := Mine.B2 w d0 news) ?turn2 ?fin2 26 0 _ _ rfl ⟨_, o, kvs, c, canonM1 (by with_unfolding_all rfl), rfl, hdo, hf, by simp only [List.length_nil] at hlen; omega, hcb.trans upto_zero⟩
  case turn2 =>
    rintro i _ _ hi26 ⟨u, o, kvs, c, rfl, rfl, hdo, hf, hlen, hc⟩ it t h8 tk8 F4 N4
    have i0 : (0 : Int) ≤ (i : Int) := Int.natCast_nonneg i
    have i1 : (i : Int) < 26 := by omega
    k_steps
    unfold Stop
    rename_i Td hT FT NT ltT
    have hRd : Rad ≠ d0 := Nat.ne_of_gt (hR0 (d0, _) (List.mem_cons_self ..))
    refine iter_tupL (vs := [.int (97 + (0 + (i : Int))) _, .int (65 + (0 + (i : Int))) _, .int (119808 + (0 + (i : Int))) _]) (n := 0) (by rfl) FT NT (List.mem_cons_self ..) rfl rfl (fun Jad hJ0 => ?_)
    have hd0J : d0 < Jad := hJ0 (d0, _) (List.mem_cons_of_mem _ (List.mem_cons_of_mem _ (List.mem_cons_self ..)))
    have hd0R : d0 < Rad := hR0 (d0, _) (List.mem_cons_self ..)
    refine tup_ind (I := Mine.B3 w d0 Td Rad _ it news (58 + 3 * i) (upto (i + 1))) ?turn3 ?fin3 _ _ _ ⟨_, o, kvs, c, three (0 + (i : Int)), canonM1 (by with_unfolding_all rfl), rfl, hdo, hf, IntsAre.cons _ _ (IntsAre.cons _ _ (IntsAre.cons _ _ IntsAre.nil)), ?rg, ?ln, ?eq⟩
    case rg =>
      intro z hz
      simp only [three, List.mem_cons, List.not_mem_nil, or_false] at hz
      omega
    case ln =>
      show c.length + 3 ≤ 58 + 3 * i
      omega
    case eq => rw [Int.zero_add, upto_succ, ← hc]
    case turn3 =>
      clear FT NT hdo hf hlen hc
      rintro v r _ _ ⟨u, o, kvs, c, rest, rfl, rfl, hdo, hf, hI, hr, hlen, hfin⟩ it2 h7 tk7 F2 N2
      cases hI with
      | cons x t hI' =>
      rename_i ns
      obtain ⟨hx0, hx1⟩ := hr x (List.mem_cons_self ..)
      have hcl : c.length ≤ 200 := by omega
      k_steps
      unfold Stop
      refine' CT.use (b3_ct _ _ _) BB F2 ?za N2 ?zb ?zc ?zd ?ze ?zf
      case za => k_asm
      case zb => k_asm
      case zc => exact rfl
      case zd => ktr_room
      case ze => ktr_units
      intro t' h' tk' F' N'
      k_sweep
      k_steps
      rename Fr _ _ _ _ => F3
      rename News _ _ _ _ => N3
      have n1 : Jad ≠ d0 := Nat.ne_of_gt (hJ0 (d0, _) (List.mem_cons_of_mem _ (List.mem_cons_of_mem _ (List.mem_cons_self ..))))
      have n2 : Td ≠ d0 := Nat.ne_of_gt ltT.2.1
      refine kdp_setItem (k := fold x.toNat) F3 N3 (.tail n1 (.tail n2 (.tail hRd (.head fun p hp => Nat.ne_of_lt (ld p hp))))) hdo hf (by omega) (fun h8 o8 kvs8 F8 N8 hd8 hf8 => ?_)
      k_steps
      unfold Stop
      refine unrEnd_lt F8 N8 ((Td, _) :: (Rad, it) :: (d0, o8) :: news) (List.mem_cons_self ..) (fun p hp => List.mem_cons_of_mem _ hp) (fun p hp => ?_) ⟨List.mem_cons_self .., _, o8, kvs8, bookStep c x, ns, canonM1 (by with_unfolding_all rfl), rfl, hd8, hf8, hI', (fun z hz => hr z (List.mem_cons_of_mem _ hz)), ?_, hfin⟩
      · rcases List.mem_cons.mp hp with rfl | hp
        · exact .inl (hJ0 (Td, _) (List.mem_cons_self ..))
        · rcases List.mem_cons.mp hp with rfl | hp
          · exact .inl (hJ0 (Rad, it) (List.mem_cons_of_mem _ (List.mem_cons_self ..)))
          · rcases List.mem_cons.mp hp with rfl | hp
            · exact .inl hd0J
            · exact .inl (hJ0 p (List.mem_cons_of_mem _ (List.mem_cons_of_mem _ (List.mem_cons_of_mem _ hp))))
      · have := bookStep_len (c := c) (code := x)
        simp only [List.length_cons] at hlen
        omega
    case fin3 =>
      clear FT NT hdo hf hlen hc
      rintro _ _ ⟨u, o, kvs, c, rest, rfl, rfl, hdo, hf, hI, hr, hlen, hfin⟩ h7 tk7 F2 N2
      cases hI
      have hcb : c = upto (i + 1) := hfin
      k_steps
      unfold Stop
      rename Fr _ _ _ _ => F3
      rename News _ _ _ _ => N3
      refine unrEnd_lt F3 N3 ((d0, o) :: news) (List.mem_cons_of_mem _ (List.mem_cons_self ..)) (fun p hp => List.mem_cons_of_mem _ (List.mem_cons_of_mem _ hp)) (fun p hp => ?_) ⟨_, o, kvs, c, canonM1 (by with_unfolding_all rfl), rfl, hdo, hf, ?_, hcb⟩
      · rcases List.mem_cons.mp hp with rfl | hp
        · exact .inl hd0R
        · exact .inl (hR0 p (List.mem_cons_of_mem _ hp))
      · simp only [List.length_nil] at hlen
        omega
  rintro _ _ ⟨u, o, kvs, c, rfl, rfl, hdo, hf, hlen, hc⟩ h9 tk9 F9 N9
  rw [hc, ← bookC_eq] at hf
  clear FR NR
  k_steps
  rename Fr _ _ _ _ => kF
  rename News _ _ _ _ => kN
  exact hret d0 o kvs _ _ kF kN ld lo hdo hf
end Mine

end
section
open PySem PySem.W PyProof.Rows PySem.Calls PyProof.V
namespace Mine
def bookChk : Bool := (bookC.all fun p => if (p.1.length : Int) = 1 then p.2 == 3 else kdpLook countC p.1 0 == p.2) && ((countC.all fun p => kdpHas bookC p.1) && ((List.range 26).all fun k => kdpHas bookC ⟨#[97 + k]⟩))
def rangeChk : Bool := bookC.all fun p => decide (0 ≤ p.2) && decide (p.2 ≤ 3)
def allChk : Bool := bookChk && rangeChk
theorem all_chk : allChk = true := by kernel_rfl
theorem book_chk : bookChk = true := (Bool.and_eq_true_iff.mp all_chk).1
theorem range_chk : rangeChk = true := (Bool.and_eq_true_iff.mp all_chk).2
theorem look_some {c : List (Str × Int)} {x : Str} {p : Str × Int} (h : c.find? (fun p => decide (p.1 = x)) = some p) : kdpLook c x 0 = p.2 ∧ p ∈ c ∧ p.1 = x := by
  refine ⟨by unfold kdpLook; rw [h]; rfl, List.mem_of_find?_eq_some h, ?_⟩
  have := List.find?_some h
  exact of_decide_eq_true this
theorem look_none' {c : List (Str × Int)} {x : Str} (h : c.find? (fun p => decide (p.1 = x)) = none) : kdpLook c x 0 = 0 ∧ kdpHas c x = false := by
  refine ⟨by unfold kdpLook; rw [h]; rfl, ?_⟩
  unfold kdpHas
  rw [Bool.eq_false_iff]
  intro ha
  obtain ⟨p, hp, e⟩ := List.any_eq_true.mp ha
  exact absurd e (by simpa using List.find?_eq_none.mp h p hp)
/-- what the book says of a piece of letters -/
theorem book_sig {x : Str} (hl : ∀ c ∈ x.cps.toList, 97 ≤ c ∧ c < 123) : kdpLook bookC x 0 = sig x := by
  have h := book_chk
  unfold bookChk at h
  rw [Bool.and_eq_true, Bool.and_eq_true] at h
  obtain ⟨h1, h2, h3⟩ := h
  cases hf : bookC.find? (fun p => decide (p.1 = x)) with
  | some p =>
    obtain ⟨e1, e2, e3⟩ := look_some hf
    have := List.all_eq_true.mp h1 p e2
    rw [e1]
    unfold sig
    rw [e3] at this
    split
    · rename_i hx; rw [if_pos hx] at this; exact eq_of_beq this
    · rename_i hx; rw [if_neg hx] at this; exact (eq_of_beq this).symm
  | none =>
    obtain ⟨e1, e2⟩ := look_none' hf
    rw [e1]
    unfold sig
    split
    · rename_i hx
      exfalso
      have hx' : x.cps.size = 1 := by have : (x.length : Int) = 1 := hx; unfold Str.length at this; omega
      obtain ⟨⟨l⟩⟩ := x
      match l, hx' with
      | [a], _ =>
        have ha := hl a (by simp)
        have := List.all_eq_true.mp h3 (a - 97) (List.mem_range.mpr (by omega))
        rw [show 97 + (a - 97) = a by omega] at this
        rw [show ({ cps := #[a] } : Str) = { cps := { toList := [a] } } from rfl, e2] at this
        cases this
    · cases hc : countC.find? (fun p => decide (p.1 = x)) with
      | none => exact (look_none' hc).1.symm
      | some p =>
        exfalso
        obtain ⟨_, f2, f3⟩ := look_some hc
        have := List.all_eq_true.mp h2 p f2
        rw [f3, e2] at this
        cases this
end Mine

end
section
open PySem PySem.W PyProof.Rows PySem.Calls PyProof.V
open Mine
namespace Mine
def optV : Option Int → Tok → Value
  | none, _ => .none
  | some a, t => .int a t
/-- a list whose places hold counts that may be lacking -/
def OptAt (vs : List Value) (f : Nat → Option Int) (n : Nat) : Prop := vs.length = n ∧ ∀ i, i < n → ∃ t, vs[i]? = some (optV (f i) t)
theorem book_tab {w : World} {h₀ h : Heap} {L d : Addr} {o : Obj} {kvs : List (Str × Value)} {c : List (Str × Int)} {news : List (Addr × Obj)} (N : News h₀ L h news) (hm : (d, o) ∈ news) (hd : (d == sysModules) = false) (hdo : o.IsDictOf (strKind pw w) kvs) (hf : FlatPairs PyData.str kvs (kdpD c)) : StrTab pw w h d (kdpD c) := TabAt.ofNews N hm hd hdo hf
theorem OptAt.push {vs : List Value} {f : Nat → Option Int} {n : Nat} (h : OptAt vs f n) {t : Tok} {v : Value} (hv : v = optV (f n) t) : OptAt (vs ++ [v]) f (n + 1) := by
  refine ⟨by rw [List.length_append, h.1]; rfl, fun i hi => ?_⟩
  by_cases e : i = n
  · subst e
    exact ⟨t, by rw [List.getElem?_append_right (by rw [h.1]; exact Nat.le_refl _), h.1, Nat.sub_self, hv]; rfl⟩
  · obtain ⟨u, hu⟩ := h.2 i (by omega)
    exact ⟨u, by rw [List.getElem?_append_left (by rw [h.1]; omega)]; exact hu⟩
theorem canonM4 {m' : Str → Option Value} {x y z q : Str} {vx vy vz vq : Value} (hx : m' x = some vx) (hy : m' y = some vy) (hz : m' z = some vz) (hq : m' q = some vq) : m' = fun n => if n = x then some vx else if n = y then some vy else if n = z then some vz else if n = q then some vq else m' n := by
  funext n
  by_cases e1 : n = x
  · rw [if_pos e1, e1, hx]
  · rw [if_neg e1]; exact congrFun (canonM3 hy hz hq) n
theorem canonM7 {m' : Str → Option Value} {x1 x2 x3 x4 x5 x6 x7 : Str} {v1 v2 v3 v4 v5 v6 v7 : Value} (h1 : m' x1 = some v1) (h2 : m' x2 = some v2) (h3 : m' x3 = some v3) (h4 : m' x4 = some v4) (h5 : m' x5 = some v5) (h6 : m' x6 = some v6) (h7 : m' x7 = some v7) :
    m' = fun n => if n = x1 then some v1 else if n = x2 then some v2 else if n = x3 then some v3 else if n = x4 then some v4 else if n = x5 then some v5 else if n = x6 then some v6 else if n = x7 then some v7 else m' n := by
  funext n
  by_cases e1 : n = x1
  · rw [if_pos e1, e1, h1]
  · rw [if_neg e1]
    by_cases e2 : n = x2
    · rw [if_pos e2, e2, h2]
    · rw [if_neg e2]
      by_cases e3 : n = x3
      · rw [if_pos e3, e3, h3]
      · rw [if_neg e3]; exact congrFun (canonM4 h4 h5 h6 h7) n
/-- the piece of a word from s to e -/
def cutS (x : Str) (s e : Nat) : Str := Txt.slice x (some (s : Int)) (some (e : Int))
/-- what the book says of the piece -/
def VB (x : Str) (s e : Nat) : Int := kdpLook bookC (cutS x s e) 0
theorem book_range (y : Str) : 0 ≤ kdpLook bookC y 0 ∧ kdpLook bookC y 0 ≤ 3 := by
  cases hf : bookC.find? (fun p => decide (p.1 = y)) with
  | none => rw [(look_none' hf).1]; decide
  | some p =>
    obtain ⟨e1, e2, e3⟩ := look_some hf
    have h := range_chk
    unfold rangeChk at h
    have := List.all_eq_true.mp h p e2
    rw [Bool.and_eq_true] at this
    rw [e1]
    exact ⟨of_decide_eq_true this.1, of_decide_eq_true this.2⟩
theorem VB0 (x : Str) : ∀ s e, 0 ≤ VB x s e := fun s e => (book_range _).1
theorem VB3 (x : Str) : ∀ s e, VB x s e ≤ 3 := fun s e => (book_range _).2
theorem vb_eq (x : Str) (i e : Nat) : kdpLook bookC (Txt.slice x (some (0 + (i : Int))) (some (1 + (e : Int)))) 0 = VB x i (e + 1) := by
  unfold VB cutS
  rw [Int.zero_add, show (1 : Int) + (e : Int) = ((e + 1 : Nat) : Int) by omega]
/-- a fresh pair: a count that may be lacking, and a count -/
abbrev RetT (r : Option Int × Int) : Heap → Addr → (Str → Option Value) → List (Addr × Obj) → Shared → (Value → Shared → Prop) → Prop := fun h₀ L m news s Q =>
  ∀ (a' : Addr) (t1 t2 : Tok) (h' : Heap) (tk' : Nat), Fr h₀ L h' m → News h₀ L h' ((a', ({ cls := .type "tuple", data := .seq #[optV r.1 t1, .int r.2 t2] 0 } : Obj)) :: news) → (∀ p ∈ news, p.1 < a') → Q (.ref a') { s with heap := h', toks := tk' }
def WI (x : Str) (tk : Tok) (d Fa Ta : Addr) (V : Nat → Nat → Int) (news0 : List (Addr × Obj)) (i : Nat) (m : Str → Option Value) (news : List (Addr × Obj)) : Prop :=
  ∃ (u : Str → Option Value) (fs ts : List Value) (cf ct : Nat), m = (fun y => if y = Str.ofString "word" then some (.str x tk) else if y = Str.ofString "book" then some (.ref d) else if y = Str.ofString "fewest" then some (.ref Fa) else if y = Str.ofString "texts" then some (.ref Ta) else u y) ∧
    news = (Ta, W.listOf ts.toArray ct) :: (Fa, W.listOf fs.toArray cf) :: news0 ∧ OptAt fs (fun k => (best V k).1) (i + 1) ∧ IntsAre ts ((List.range (i + 1)).map fun k => (best V k).2)
def WJ (x : Str) (tk : Tok) (d Fa Ta : Addr) (V : Nat → Nat → Int) (e : Nat) (lt lf : Obj) (Rad : Addr) (it : Obj) (news0 : List (Addr × Obj)) (i : Nat) (m : Str → Option Value) (news : List (Addr × Obj)) : Prop :=
  ∃ (u : Str → Option Value) (te tl tc : Tok), m = (fun y => if y = Str.ofString "word" then some (.str x tk) else if y = Str.ofString "book" then some (.ref d) else if y = Str.ofString "fewest" then some (.ref Fa) else if y = Str.ofString "texts" then some (.ref Ta)
      else if y = Str.ofString "end" then some (.int (1 + (e : Int)) te) else if y = Str.ofString "least" then some (optV (accW V (e + 1) i).1 tl) else if y = Str.ofString "count" then some (.int (accW V (e + 1) i).2 tc) else u y) ∧
    news = (Rad, it) :: (Ta, lt) :: (Fa, lf) :: news0
theorem WJ.intro {x : Str} {tk : Tok} {d Fa Ta : Addr} {V : Nat → Nat → Int} {e : Nat} {lt lf : Obj} {Rad : Addr} {it : Obj} {news0 : List (Addr × Obj)} {i : Nat} {m : Str → Option Value} {te tl tc : Tok} {vl : Value} {c : Int}
    (h1 : m (Str.ofString "word") = some (.str x tk)) (h2 : m (Str.ofString "book") = some (.ref d)) (h3 : m (Str.ofString "fewest") = some (.ref Fa)) (h4 : m (Str.ofString "texts") = some (.ref Ta)) (h5 : m (Str.ofString "end") = some (.int (1 + (e : Int)) te))
    (h6 : m (Str.ofString "least") = some vl) (h7 : m (Str.ofString "count") = some (.int c tc)) (hl : vl = optV (accW V (e + 1) i).1 tl) (hc : c = (accW V (e + 1) i).2) : WJ x tk d Fa Ta V e lt lf Rad it news0 i m ((Rad, it) :: (Ta, lt) :: (Fa, lf) :: news0) :=
  ⟨m, te, tl, tc, canonM7 h1 h2 h3 h4 h5 (by rw [h6, hl]) (by rw [h7, hc]), rfl⟩
theorem WJ.ints {x : Str} {tk : Tok} {d Fa Ta : Addr} {V : Nat → Nat → Int} {e : Nat} {lt lf : Obj} {Rad : Addr} {it : Obj} {news0 : List (Addr × Obj)} {i : Nat} {m : Str → Option Value} {te tl tc : Tok} {z c : Int}
    (h1 : m (Str.ofString "word") = some (.str x tk)) (h2 : m (Str.ofString "book") = some (.ref d)) (h3 : m (Str.ofString "fewest") = some (.ref Fa)) (h4 : m (Str.ofString "texts") = some (.ref Ta)) (h5 : m (Str.ofString "end") = some (.int (1 + (e : Int)) te))
    (h6 : m (Str.ofString "least") = some (.int z tl)) (h7 : m (Str.ofString "count") = some (.int c tc)) (hl : (accW V (e + 1) i).1 = some z) (hc : c = (accW V (e + 1) i).2) : WJ x tk d Fa Ta V e lt lf Rad it news0 i m ((Rad, it) :: (Ta, lt) :: (Fa, lf) :: news0) :=
  WJ.intro (tl := tl) h1 h2 h3 h4 h5 h6 h7 (by rw [hl]; rfl) hc
theorem item_own {prog : Program} {w : World} {A : Around} {E : Value → Shared → Prop} {s : Shared} {h₀ : Heap} {L : Addr} {news : List (Addr × Obj)} {value slice : PySem.Expr} {l : Addr} {vs : List Value} {c k : Nat} {u : Tok} {v : Value} {Q : Value → Shared → Prop} (N : News h₀ L s.heap news) (hm : (l, W.listOf vs.toArray c) ∈ news) (hx : vs[k]? = some v) (hk : k < 1000) (h : Q v s)
    (hs : subscripted slice false (.ref l) (.int (0 + (k : Int)) u) = operate [.ref l, .int (0 + (k : Int)) u] (getItem (.ref l) (.int (0 + (k : Int)) u)) := by with_unfolding_all rfl) :
    wpAny (model prog w) A (subscriptTail value slice (.ref l) (.int (0 + (k : Int)) u)) Q E s :=
  item_litK (vs := vs) ⟨_, (N _ hm).1, rfl, _, rfl⟩ (by omega) (by omega) (by rw [Int.zero_add, Int.toNat_natCast]; exact hx) h hs
theorem list_end {prog : Program} {w : World} {A : Around} {E : Value → Shared → Prop} {s : Shared} {h₀ : Heap} {L : Addr} {news : List (Addr × Obj)} {value slice : PySem.Expr} {l : Addr} {vs : List Value} {c k : Nat} {u : Tok} {v : Value} {Q : Value → Shared → Prop} (N : News h₀ L s.heap news) (hm : (l, W.listOf vs.toArray c) ∈ news) (hl : vs.length = k + 1) (hx : vs[k]? = some v) (h : Q v s)
    (hs : subscripted slice false (.ref l) (.int (-1) u) = operate [.ref l, .int (-1) u] (getItem (.ref l) (.int (-1) u)) := by with_unfolding_all rfl) :
    wpAny (model prog w) A (subscriptTail value slice (.ref l) (.int (-1) u)) Q E s := by
  have hL : s.heap.IsList l vs.toArray := ⟨_, (N _ hm).1, rfl, _, rfl⟩
  refine tail_any hL.typeIs slot_list_getitem.lookup (wpAny_getItem_list_neg hL (by decide) (by rw [List.size_toArray, hl]; omega) (by decide) ?_ h) hs
  rw [List.size_toArray, hl, show ((-1 : Int) + ((k + 1 : Nat) : Int)).toNat = k by omega]
  simpa using hx
end Mine
local macro_rules | `(tactic| walk_at "execs cons") => `(tactic| (k_here; (with_reducible show wpAny _ _ _ _ _ { heap := _, gens := _, drawn := _, toks := _ + 1, os := _ }); k_dflt (refine Mine.gen_toks ?_); intro tk))
local macro_rules | `(tactic| walk_at "execs nil") => `(tactic| (k_here; (with_reducible show wpAny _ _ _ _ _ { heap := _, gens := _, drawn := _, toks := _ + 1, os := _ }); k_dflt (refine Mine.gen_toks ?_); intro tk))
local macro_rules | `(tactic| walk_at "eval Call") => `(tactic| (k_here; k_dflt (refine Call_ ?_)))
local macro_rules | `(tactic| walk_at "exec For") => `(tactic| (k_here; (rename Fr _ _ _ _ => lF'); (with_unfolding_all refine' For_invVF lF' ?k1 ?k2 ?_; (case k1 => exact rfl); (case k2 => exact rfl); k_whole)))
local macro_rules | `(tactic| walk_at "exec For Name Call cons nil") => `(tactic| (k_here; (rename Fr _ _ _ _ => lF'); (with_unfolding_all refine' For_invVF lF' ?k1 ?k2 ?_; (case k1 => exact rfl); (case k2 => exact rfl); k_whole)))
local macro_rules | `(tactic| walk_at "pyIter ref") => `(tactic| (k_here; refine Stop.out ?_; walk_say "STOP AT ITER"))
local macro_rules | `(tactic| walk_at "UnrEnd") => `(tactic| (k_here; refine Stop.out ?_; walk_say "STOP AT UNREND"))
local macro_rules | `(tactic| walk_at "call ref") => `(tactic| (k_here; refine Stop.out ?_; walk_say "STOP AT CALL"))
local macro_rules | `(tactic| walk_at "call builtin:len") => `(tactic| (k_here; (with_reducible show wpAny _ _ (call (Value.builtin "len") [Value.str _ _]) _ _ _); k_dflt (refine Mine.len_small (by with_reducible assumption) ?_); intro tu))
local macro_rules | `(tactic| walk_at "getMethod ref") => `(tactic| (k_here; (with_reducible show wpAny _ _ (getMethod (Value.ref _) (Str.ofString "get") _) _ _ _); k_dflt (refine getMethod_strTab_get (book_tab (by k_asm) ?mm (by k_asm) (by k_asm) (by k_asm)) ?_); (case mm => (repeat first | with_reducible assumption | refine List.mem_cons_of_mem _ ?_)); walk_say "BOOK METHOD"))
local macro_rules | `(tactic| walk_at "call builtin:dict.get") => `(tactic| (k_here; refine Stop.out ?_; walk_say "STOP AT GET"))
local macro_rules | `(tactic| walk_at "call builtin:list.append") => `(tactic| (k_here; refine Stop.out ?_; walk_say "STOP AT APPEND"))
local macro_rules | `(tactic| walk_at "subscriptTail Name Name ref int") => `(tactic| (k_here; k_dflt (refine Mine.item_own (by k_asm) (by k_mem) (by with_reducible assumption) (by omega) ?_); walk_say "ITEM"))
local macro_rules | `(tactic| walk_at "subscriptTail Name UnaryOp ref int") => `(tactic| (k_here; k_dflt (refine Mine.list_end (by k_asm) (by k_mem) (by with_reducible assumption) (by with_reducible assumption) ?_); walk_say "LAST ITEM"))
namespace Mine
set_option maxHeartbeats 2000000 in
theorem walk_ct (w : World) (x : Str) (tk : Tok) (d : Addr) (o : Obj) (kvs : List (Str × Value)) (hx : x.length ≤ 8) (hd : (d == sysModules) = false) (hdo : o.IsDictOf (strKind pw w) kvs) (hf : FlatPairs PyData.str kvs (kdpD bookC)) : CT w 83 [.str x tk, .ref d] (fun h₀ L m news s Q => (d, o) ∈ news ∧ RetT (best (VB x) x.length) h₀ L m news s Q) 6 := by
  have hrw : PySem.Challenge.rw_dw5011_01 = PySem.Challenge.rw_dw5011_01 ∧ K = K := ⟨rfl, rfl⟩
  revert hrw
  k_fill
  intro hrw loose mean mg mb dp un gd cn cs a ccd cl outer A₀ base h₀ L m news s Q E B F X N T hk hdp hu ⟨hm, hret⟩
  refine wpAny_call ?_
  cell_enter
  dsimp only [FB8, rhsOf]
  have hx100 : x.length ≤ 100 := by omega
  k_steps
  unfold Stop
  rename_i Fa hA ltA hB tkA Ta hC ltB hD FB NB tkB tuB hE tkE t₁ u₁ v₁ hR FC NC keepC
  refine iter_rangeUnr (n := x.length) (by rfl) hR (range_small (by omega) (by omega) (by omega) (by omega)) (range_size (by omega)) FC NC (fun Rad hR0 => ?_)
  refine range_ind (I := Mine.WI x tk d Fa Ta (VB x) news) ?turn ?fin x.length 0 _ _ (by omega) ⟨_, [.int 0 _], [.int 1 _], 0, 0, canonM4 (by with_unfolding_all rfl) (by with_unfolding_all rfl) (by with_unfolding_all rfl) (by with_unfolding_all rfl), rfl, ?i1, ?i2⟩
  case i1 => exact ⟨rfl, fun i hi => by obtain rfl : i = 0 := (by omega); exact ⟨_, rfl⟩⟩
  case i2 => exact IntsAre.cons _ _ IntsAre.nil
  case turn =>
    rintro e _ _ he ⟨u, fs, ts, cf, ct, rfl, rfl, hO, hI⟩ it t h8 tk8 F4 N4
    have e0 : (0 : Int) ≤ (e : Int) := Int.natCast_nonneg e
    have e1 : (e : Int) < 8 := by omega
    have hFad : Fa < Rad := hR0 (Fa, _) (List.mem_cons_of_mem _ (List.mem_cons_self ..))
    have hTad : Ta < Rad := hR0 (Ta, _) (List.mem_cons_self ..)
    have hNad : ∀ p ∈ news, p.1 < Rad := fun p hp => hR0 p (List.mem_cons_of_mem _ (List.mem_cons_of_mem _ hp))
    have hx2 : e < x.length := he
    have hFT : Fa < Ta := ltB.1
    have hNT : ∀ p ∈ news, p.1 < Ta := fun p hp => Nat.lt_trans (ltA p hp) hFT
    clear FC NC keepC
    k_steps
    unfold Stop
    rename IsRange _ _ _ _ _ _ _ _ => hR2
    rename_i FD ND kD
    refine iter_rangeUnr (n := e + 1) (by rfl) hR2 (range_small (by omega) (by omega) (by omega) (by omega)) (range_size (by omega)) FD ND (fun Sad hS0 => ?_)
    refine range_ind (I := Mine.WJ x tk d Fa Ta (VB x) e (W.listOf ts.toArray ct) (W.listOf fs.toArray cf) Rad it news) ?turn2 ?fin2 (e + 1) 0 _ _ (by omega) ⟨_, _, 0, _, canonM7 (by with_unfolding_all rfl) (by with_unfolding_all rfl) (by with_unfolding_all rfl) (by with_unfolding_all rfl) (by with_unfolding_all rfl) (by with_unfolding_all rfl) (by with_unfolding_all rfl), rfl⟩
    case turn2 =>
      rintro i _ _ hi ⟨u, te, tl, tc, rfl, rfl⟩ it2 t2 h9 tk9 F5 N5
      clear FD ND kD hR hR2
      have i0 : (0 : Int) ≤ (i : Int) := Int.natCast_nonneg i
      have i1 : (i : Int) < 8 := by omega
      have hv0 := VB0 x i (e + 1)
      have hv3 := VB3 x i (e + 1)
      obtain ⟨tf, hfi0⟩ := hO.2 i hi
      have hfi : fs[i]? = some (optV (best (VB x) i).1 tf) := hfi0
      obtain ⟨tt, hti⟩ := hI.get i (best (VB x) i).2 (by rw [List.getElem?_map, List.getElem?_range hi]; rfl)
      have hbk := (ok_best (VB0 x) (VB3 x) i).1
      have hac := (ok_best (VB0 x) (VB3 x) i).2 (e + 1)
      have hf4 : four i ≤ 65536 := Int.le_trans (four_mono (show i ≤ 8 by omega)) (by decide)
      have hT0 := hbk.nn
      have hT1 : (best (VB x) i).2 ≤ 65536 := Int.le_trans hbk.le hf4
      have hc0 := hac.nn
      have hc1 : (accW (VB x) (e + 1) i).2 ≤ 65536 := by have := hac.le; omega
      have sk := accW_skip (VB0 x) (VB3 x) (e := e + 1) (i := i)
      have sm := fun b => accW_some (V := VB x) (e := e + 1) (i := i) (b := b)
      k_steps
      unfold Stop
      refine kdp_get2 (book_tab (by k_asm) ?mm (by k_asm) (by k_asm) (by k_asm)) ?_
      case mm => (repeat first | with_reducible assumption | refine List.mem_cons_of_mem _ ?_)
      intro tq
      rw [vb_eq]
      rename Fr _ _ _ _ => F6
      by_cases hv : 0 < VB x i (e + 1)
      · cases hb : (best (VB x) i).1 with
        | none =>
          rw [hb] at hfi
          dsimp only [optV] at hfi
          have sk' := sk (.inr hb)
          k_steps
          unfold Stop
          rename Fr _ _ _ _ => FZ
          rename News _ _ _ _ => NZ
          refine unrEnd_lt FZ NZ ((Rad, it) :: (Ta, _) :: (Fa, _) :: news) (List.mem_cons_self ..) (fun p hp => List.mem_cons_of_mem _ hp) (fun p hp => .inl (hS0 p hp)) (WJ.intro (tl := tl) (by with_unfolding_all rfl) (by with_unfolding_all rfl) (by with_unfolding_all rfl) (by with_unfolding_all rfl) (by with_unfolding_all rfl) (by with_unfolding_all rfl) (by with_unfolding_all rfl) ?al ?ac)
          case al => rw [sk']
          case ac => rw [sk']
        | some b =>
          rw [hb] at hfi
          dsimp only [optV] at hfi
          have sm' := sm b hv hb
          cases ha : (accW (VB x) (e + 1) i).1 with
          | none =>
            rw [ha] at F6
            dsimp only [optV] at F6
            k_steps
            unfold Stop
            rename Fr _ _ _ _ => FZ
            rename News _ _ _ _ => NZ
            refine unrEnd_lt FZ NZ ((Rad, it) :: (Ta, _) :: (Fa, _) :: news) (List.mem_cons_self ..) (fun p hp => List.mem_cons_of_mem _ hp) (fun p hp => .inl (hS0 p hp)) (WJ.ints (by with_unfolding_all rfl) (by with_unfolding_all rfl) (by with_unfolding_all rfl) (by with_unfolding_all rfl) (by with_unfolding_all rfl) (by with_unfolding_all rfl) (by with_unfolding_all rfl) ?bl ?bc)
            case bl => rw [sm', ha]; rfl
            case bc => rw [sm']
          | some a =>
            rw [ha] at F6
            dsimp only [optV] at F6
            k_steps
            · unfold Stop
              rename Fr _ _ _ _ => FZ
              rename News _ _ _ _ => NZ
              refine unrEnd_lt FZ NZ ((Rad, it) :: (Ta, _) :: (Fa, _) :: news) (List.mem_cons_self ..) (fun p hp => List.mem_cons_of_mem _ hp) (fun p hp => .inl (hS0 p hp)) (WJ.ints (by with_unfolding_all rfl) (by with_unfolding_all rfl) (by with_unfolding_all rfl) (by with_unfolding_all rfl) (by with_unfolding_all rfl) (by with_unfolding_all rfl) (by with_unfolding_all rfl) ?pl ?pc)
              case pl => rw [sm', ha, om_some, if_pos (by omega)]
              case pc => rw [sm']
            · unfold Stop
              rename Fr _ _ _ _ => FZ
              rename News _ _ _ _ => NZ
              refine unrEnd_lt FZ NZ ((Rad, it) :: (Ta, _) :: (Fa, _) :: news) (List.mem_cons_self ..) (fun p hp => List.mem_cons_of_mem _ hp) (fun p hp => .inl (hS0 p hp)) (WJ.ints (by with_unfolding_all rfl) (by with_unfolding_all rfl) (by with_unfolding_all rfl) (by with_unfolding_all rfl) (by with_unfolding_all rfl) (by with_unfolding_all rfl) (by with_unfolding_all rfl) ?ql ?qc)
              case ql => rw [sm', ha, om_some, if_neg (by omega)]
              case qc => rw [sm']
      · have sk' := sk (.inl (by omega))
        k_steps
        unfold Stop
        rename Fr _ _ _ _ => FZ
        rename News _ _ _ _ => NZ
        refine unrEnd_lt FZ NZ ((Rad, it) :: (Ta, _) :: (Fa, _) :: news) (List.mem_cons_self ..) (fun p hp => List.mem_cons_of_mem _ hp) (fun p hp => .inl (hS0 p hp)) (WJ.intro (tl := tl) (by with_unfolding_all rfl) (by with_unfolding_all rfl) (by with_unfolding_all rfl) (by with_unfolding_all rfl) (by with_unfolding_all rfl) (by with_unfolding_all rfl) (by with_unfolding_all rfl) ?zl ?zc)
        case zl => rw [sk']
        case zc => rw [sk']
    case fin2 =>
      rintro _ _ ⟨u, te, tl, tc, rfl, rfl⟩ h7 tk7 F2 N2
      clear FD ND kD hR hR2
      rw [accW_best (VB0 x) (by omega)] at F2
      have hfl : fs.length ≤ 100 := by rw [hO.1]; omega
      have htl : ts.length ≤ 100 := by rw [hI.length, List.length_map, List.length_range]; omega
      have nT : ∀ p ∈ news, p.1 ≠ Ta := fun p hp e => by have := hNT p hp; rw [e] at this; exact Nat.lt_irrefl _ this
      have nF : ∀ p ∈ news, p.1 ≠ Fa := fun p hp e => by have := ltA p hp; rw [e] at this; exact Nat.lt_irrefl _ this
      k_steps
      unfold Stop
      rename Fr _ _ _ _ => F3
      rename News _ _ _ _ => N3
      refine append_K F3 N3 (.tail (Nat.ne_of_gt hFad) (.tail (Nat.ne_of_gt hFT) (.head nF))) (fun hA1 FA1 NA1 => ?_) (by rw [List.size_toArray]; exact Nat.le_trans hfl (by decide))
      k_sweep
      k_steps
      unfold Stop
      rename Fr _ _ _ _ => F4
      rename News _ _ _ _ => N4
      refine append_K F4 N4 (.tail (Nat.ne_of_gt hTad) (.head (fun p hp => ?_))) (fun hA2 FA2 NA2 => ?_) (by rw [List.size_toArray]; exact Nat.le_trans htl (by decide))
      · rcases List.mem_cons.mp hp with rfl | hp
        · exact Nat.ne_of_lt hFT
        · exact nT p hp
      k_sweep
      k_steps
      unfold Stop
      rw [List.push_toArray, List.push_toArray] at NA2
      refine unrEnd_lt FA2 NA2 ((Ta, W.listOf _ _) :: (Fa, W.listOf _ _) :: news) (List.mem_cons_self ..) (fun p hp => List.mem_cons_of_mem _ hp) (fun p hp => .inl ?_) ⟨_, _, _, _, _, canonM4 (by with_unfolding_all rfl) (by with_unfolding_all rfl) (by with_unfolding_all rfl) (by with_unfolding_all rfl), rfl, hO.push (t := tl) rfl, ?gI⟩
      · rcases List.mem_cons.mp hp with rfl | hp
        · exact hTad
        · rcases List.mem_cons.mp hp with rfl | hp
          · exact hFad
          · exact hNad p hp
      case gI =>
        rw [List.range_succ, List.map_append]
        exact hI.append (IntsAre.cons _ _ IntsAre.nil)
  case fin =>
    rintro _ _ ⟨u, fs, ts, cf, ct, rfl, rfl, hO, hI⟩ h7 tk7 F2 N2
    clear FC NC keepC FB NB
    obtain ⟨tf, hfi0⟩ := hO.2 x.length (Nat.lt_succ_self _)
    have hfi : fs[x.length]? = some (optV (best (VB x) x.length).1 tf) := hfi0
    obtain ⟨tt, hti⟩ := hI.get x.length (best (VB x) x.length).2 (by rw [List.getElem?_map, List.getElem?_range (Nat.lt_succ_self _)]; rfl)
    have hol := hO.1
    have hil : ts.length = x.length + 1 := by rw [hI.length, List.length_map, List.length_range]
    have lN : ∀ p ∈ news, p.1 < h7.objs.size := fun p hp => Heap.lt_size (N2 p (List.mem_cons_of_mem _ (List.mem_cons_of_mem _ hp))).1
    k_steps
    rename Fr _ _ _ _ => kF
    rename News _ _ _ _ => kN
    exact hret _ _ _ _ _ kF (fun p hp => kN p (by
      rcases List.mem_cons.mp hp with rfl | hp
      · exact List.mem_cons_self ..
      · first
        | exact List.mem_cons_of_mem _ hp
        | exact List.mem_cons_of_mem _ (List.mem_cons_of_mem _ (List.mem_cons_of_mem _ hp)))) lN

end Mine

end
section
open PySem PySem.W PyProof.Rows PySem.Calls PyProof.V
open Mine
namespace Mine
/-- the signs that the law itself counts for the piece -/
def VS (x : Str) (s e : Nat) : Int := sig (cutS x s e)
def rangeChk2 : Bool := countC.all fun p => decide (0 ≤ p.2) && decide (p.2 ≤ 3)
theorem range_chk2 : rangeChk2 = true := by kernel_rfl
theorem sig_range (y : Str) : 0 ≤ sig y ∧ sig y ≤ 3 := by
  unfold sig
  split
  · decide
  · cases hf : countC.find? (fun p => decide (p.1 = y)) with
    | none => rw [(look_none' hf).1]; decide
    | some p =>
      obtain ⟨e1, e2, e3⟩ := look_some hf
      have h := range_chk2
      unfold rangeChk2 at h
      have := List.all_eq_true.mp h p e2
      rw [Bool.and_eq_true] at this
      rw [e1]
      exact ⟨of_decide_eq_true this.1, of_decide_eq_true this.2⟩
theorem VS0 (x : Str) : ∀ s e, 0 ≤ VS x s e := fun s e => (sig_range _).1
theorem VS3 (x : Str) : ∀ s e, VS x s e ≤ 3 := fun s e => (sig_range _).2
def CI (x : Str) (tk : Tok) (V : Nat → Nat → Int) (n : Nat) (news0 : List (Addr × Obj)) (c : Nat) (m : Str → Option Value) (news : List (Addr × Obj)) : Prop :=
  ∃ (u : Str → Option Value) (tf tt : Tok), m = (fun y => if y = Str.ofString "word" then some (.str x tk) else if y = Str.ofString "fewest" then some (optV (accC V n c).1 tf) else if y = Str.ofString "texts" then some (.int (accC V n c).2 tt) else u y) ∧ news0 = news
def CJ (x : Str) (tk : Tok) (V : Nat → Nat → Int) (n c : Nat) (vf vt : Value) (tc : Tok) (Rad : Addr) (it : Obj) (news0 : List (Addr × Obj)) (j : Nat) (m : Str → Option Value) (news : List (Addr × Obj)) : Prop :=
  ∃ (u : Str → Option Value) (ts tp tw : Tok), m = (fun y => if y = Str.ofString "word" then some (.str x tk) else if y = Str.ofString "fewest" then some vf else if y = Str.ofString "texts" then some vt else if y = Str.ofString "cuts" then some (.int (0 + (c : Int)) tc)
      else if y = Str.ofString "start" then some (.int ((runAt V c n j).1 : Int) ts) else if y = Str.ofString "pieces" then some (.int (runAt V c n j).2.1 tp) else if y = Str.ofString "ways" then some (.int (runAt V c n j).2.2 tw) else u y) ∧
    news = (Rad, it) :: news0
theorem CJ.intro {x : Str} {tk : Tok} {V : Nat → Nat → Int} {n c : Nat} {vf vt : Value} {tc : Tok} {Rad : Addr} {it : Obj} {news0 : List (Addr × Obj)} {j : Nat} {m : Str → Option Value} {ts tp tw : Tok} {a b d : Int}
    (h1 : m (Str.ofString "word") = some (.str x tk)) (h2 : m (Str.ofString "fewest") = some vf) (h3 : m (Str.ofString "texts") = some vt) (h4 : m (Str.ofString "cuts") = some (.int (0 + (c : Int)) tc)) (h5 : m (Str.ofString "start") = some (.int a ts)) (h6 : m (Str.ofString "pieces") = some (.int b tp)) (h7 : m (Str.ofString "ways") = some (.int d tw))
    (e5 : a = ((runAt V c n j).1 : Int)) (e6 : b = (runAt V c n j).2.1) (e7 : d = (runAt V c n j).2.2) : CJ x tk V n c vf vt tc Rad it news0 j m ((Rad, it) :: news0) :=
  ⟨m, ts, tp, tw, canonM7 h1 h2 h3 h4 (by rw [h5, e5]) (by rw [h6, e6]) (by rw [h7, e7]), rfl⟩
theorem CI.intro {x : Str} {tk : Tok} {V : Nat → Nat → Int} {n c : Nat} {news0 : List (Addr × Obj)} {m : Str → Option Value} {vf : Value} {tf tt : Tok} {a : Int}
    (h1 : m (Str.ofString "word") = some (.str x tk)) (h2 : m (Str.ofString "fewest") = some vf) (h3 : m (Str.ofString "texts") = some (.int a tt)) (e2 : vf = optV (accC V n c).1 tf) (e3 : a = (accC V n c).2) : CI x tk V n news0 c m news0 :=
  ⟨m, tf, tt, canonM3 h1 (by rw [h2, e2]) (by rw [h3, e3]), rfl⟩
theorem CI.ints {x : Str} {tk : Tok} {V : Nat → Nat → Int} {n c : Nat} {news0 : List (Addr × Obj)} {m : Str → Option Value} {tf tt : Tok} {z a : Int}
    (h1 : m (Str.ofString "word") = some (.str x tk)) (h2 : m (Str.ofString "fewest") = some (.int z tf)) (h3 : m (Str.ofString "texts") = some (.int a tt)) (e2 : (accC V n c).1 = some z) (e3 : a = (accC V n c).2) : CI x tk V n news0 c m news0 :=
  CI.intro (tf := tf) h1 h2 h3 (by rw [e2]; rfl) e3
theorem bit_int (c j : Nat) : ((0 + (c : Int)).fdiv (2 ^ (1 + (j : Int) - 1).toNat)).fmod 2 = ((c / 2 ^ j % 2 : Nat) : Int) := by
  rw [Int.zero_add, show (1 + (j : Int) - 1).toNat = j by omega, show (2 : Int) ^ j = ((2 ^ j : Nat) : Int) by rw [Int.natCast_pow]; rfl]
  rw [Int.fdiv_eq_ediv_of_nonneg _ (Int.natCast_nonneg _), Int.fmod_eq_emod_of_nonneg _ (by decide)]
  rfl
theorem runAt_yes {V : Nat → Nat → Int} {c n j : Nat} (h : j + 1 = n ∨ c / 2 ^ j % 2 = 1) : runAt V c n (j + 1) = (j + 1, (runAt V c n j).2.1 + 1, (runAt V c n j).2.2 * V (runAt V c n j).1 (j + 1)) := by
  rw [runAt_succ]
  unfold stepK
  rw [Nat.add_sub_cancel, if_pos h]
theorem runAt_no {V : Nat → Nat → Int} {c n j : Nat} (h1 : j + 1 ≠ n) (h2 : c / 2 ^ j % 2 ≠ 1) : runAt V c n (j + 1) = runAt V c n j := by
  rw [runAt_succ]
  unfold stepK
  rw [Nat.add_sub_cancel, if_neg]
  rintro (h | h)
  · exact h1 h
  · exact h2 h
theorem accC_pos {V : Nat → Nat → Int} {n c : Nat} (h : 0 < (runK V c n).2.2) : accC V n (c + 1) = (om (accC V n c).1 (some (runK V c n).2.1), (accC V n c).2 + (runK V c n).2.2) := by
  rw [accC_succ, item_pos h]; rfl
theorem accC_neg {V : Nat → Nat → Int} {n c : Nat} (h : ¬ 0 < (runK V c n).2.2) : accC V n (c + 1) = accC V n c := by
  rw [accC_succ, item_neg h, plus_zero]
theorem vs_eq (x : Str) (i e : Nat) : sig (Txt.slice x (some (i : Int)) (some (1 + (e : Int)))) = VS x i (e + 1) := by
  unfold VS cutS
  rw [show (1 : Int) + (e : Int) = ((e + 1 : Nat) : Int) by omega]
theorem two_pow {n : Nat} (h : 1 ≤ n) : (2 : Int) ^ ((n : Int) - 1).toNat = ((2 ^ (n - 1) : Nat) : Int) := by
  rw [show ((n : Int) - 1).toNat = n - 1 by omega, Int.natCast_pow]
  rfl
theorem pow_le {n : Nat} (h : n ≤ 8) : 2 ^ (n - 1) ≤ 128 := by
  have := Nat.pow_le_pow_right (show 0 < 2 by decide) (show n - 1 ≤ 7 by omega)
  exact this
theorem empty_of {x : Str} (h : x.length = 0) : x = Str.ofString "" := by
  obtain ⟨⟨l⟩⟩ := x
  cases l with
  | nil => rfl
  | cons a l => cases h
end Mine
local macro_rules | `(tactic| walk_at "execs cons") => `(tactic| (k_here; (with_reducible show wpAny _ _ _ _ _ { heap := _, gens := _, drawn := _, toks := _ + 1, os := _ }); k_dflt (refine Mine.gen_toks ?_); intro tk))
local macro_rules | `(tactic| walk_at "execs nil") => `(tactic| (k_here; (with_reducible show wpAny _ _ _ _ _ { heap := _, gens := _, drawn := _, toks := _ + 1, os := _ }); k_dflt (refine Mine.gen_toks ?_); intro tk))
local macro_rules | `(tactic| walk_at "eval Call") => `(tactic| (k_here; k_dflt (refine Call_ ?_)))
local macro_rules | `(tactic| walk_at "exec For") => `(tactic| (k_here; (rename Fr _ _ _ _ => lF'); (with_unfolding_all refine' For_invVF lF' ?k1 ?k2 ?_; (case k1 => exact rfl); (case k2 => exact rfl); k_whole)))
local macro_rules | `(tactic| walk_at "exec For Name Call cons nil") => `(tactic| (k_here; (rename Fr _ _ _ _ => lF'); (with_unfolding_all refine' For_invVF lF' ?k1 ?k2 ?_; (case k1 => exact rfl); (case k2 => exact rfl); k_whole)))
local macro_rules | `(tactic| walk_at "pyIter ref") => `(tactic| (k_here; refine Stop.out ?_; walk_say "STOP AT ITER"))
local macro_rules | `(tactic| walk_at "UnrEnd") => `(tactic| (k_here; refine Stop.out ?_; walk_say "STOP AT UNREND"))
local macro_rules | `(tactic| walk_at "call ref") => `(tactic| (k_here; refine Stop.out ?_; walk_say "STOP AT CALL"))
local macro_rules | `(tactic| walk_at "call builtin:len") => `(tactic| (k_here; (with_reducible show wpAny _ _ (call (Value.builtin "len") [Value.str _ _]) _ _ _); k_dflt (refine Mine.len_small (by with_reducible assumption) ?_); intro tu))
namespace Mine
set_option maxHeartbeats 2000000 in
theorem every_ct (w : World) (x : Str) (tk : Tok) (hx : x.length ≤ 8) : CT w 97 [.str x tk] (RetT (best (VS x) x.length)) 12 := by
  have hrw : PySem.Challenge.rw_dw5011_01 = PySem.Challenge.rw_dw5011_01 ∧ K = K := ⟨rfl, rfl⟩
  revert hrw
  k_fill
  intro hrw loose mean mg mb dp un gd cn cs a ccd cl outer A₀ base h₀ L m news s Q E B F X N T hk hdp hu hret
  refine wpAny_call ?_
  cell_enter
  dsimp only [FB10, rhsOf]
  have hx100 : x.length ≤ 100 := by omega
  by_cases h0 : x.length = 0
  · have he : (x == Str.ofString "") = true := by rw [empty_of h0]; decide
    rw [h0, show best (VS x) 0 = (some 0, 1) from rfl] at hret
    k_steps
    rename Fr _ _ _ _ => kF
    rename News _ _ _ _ => kN
    exact hret _ _ _ _ _ kF kN (by assumption)
  have he : (x == Str.ofString "") = false := by
    rw [beq_eq_false_iff_ne]
    rintro rfl
    exact h0 rfl
  have hn : 1 ≤ x.length := by omega
  k_steps
  unfold Stop
  rename IsRange _ _ _ _ _ _ _ _ => hR
  rename_i FC NC keepC
  rw [two_pow hn] at hR
  have hp2 := pow_le hx
  obtain ⟨P, hP⟩ : ∃ P, P = 2 ^ (x.length - 1) := ⟨_, rfl⟩
  rw [← hP] at hR hp2
  refine iter_rangeUnr (n := P) (by rfl) hR (range_small (by omega) (by omega) (by omega) (by omega)) (range_size (by omega)) FC NC (fun Rad hR0 => ?_)
  refine range_ind (I := Mine.CI x tk (VS x) x.length news) ?turn ?fin P 0 _ _ (by omega) ⟨_, 0, _, canonM3 (by with_unfolding_all rfl) (by with_unfolding_all rfl) (by with_unfolding_all rfl), rfl⟩
  case turn =>
    rintro c _ _ hc ⟨u, tf, tt, rfl, rfl⟩ it t h8 tk8 F4 N4
    clear FC NC keepC hR
    have c0 : (0 : Int) ≤ (c : Int) := Int.natCast_nonneg c
    have c1 : (c : Int) < 128 := by omega
    k_steps
    unfold Stop
    rename IsRange _ _ _ _ _ _ _ _ => hR2
    rename_i FD ND kD
    refine iter_rangeUnr (n := x.length) (by rfl) hR2 (range_small (by omega) (by omega) (by omega) (by omega)) (range_size (by omega)) FD ND (fun Sad hS0 => ?_)
    refine range_ind (I := Mine.CJ x tk (VS x) x.length c (optV (accC (VS x) x.length c).1 tf) (.int (accC (VS x) x.length c).2 tt) t Rad it _) ?turn2 ?fin2 x.length 0 _ _ (by omega) ⟨_, _, _, _, canonM7 (by with_unfolding_all rfl) (by with_unfolding_all rfl) (by with_unfolding_all rfl) (by with_unfolding_all rfl) (by with_unfolding_all rfl) (by with_unfolding_all rfl) (by with_unfolding_all rfl), rfl⟩
    case turn2 =>
      rintro j _ _ hj ⟨u, ts, tp, tw, rfl, rfl⟩ it2 t2 h9 tk9 F5 N5
      clear FD ND kD hR2
      have j0 : (0 : Int) ≤ (j : Int) := Int.natCast_nonneg j
      have j1 : (j : Int) < 8 := by omega
      obtain ⟨q1, q2, q3, q4, q5⟩ := runAt_ok (VS0 x) (VS3 x) c x.length j
      have hf4 : four j ≤ 65536 := Int.le_trans (four_mono (show j ≤ 8 by omega)) (by decide)
      have w1 : (runAt (VS x) c x.length j).2.2 ≤ 65536 := Int.le_trans q5 hf4
      have b1 := bit_int c j
      have v0 := VS0 x (runAt (VS x) c x.length j).1 (j + 1)
      have v3 := VS3 x (runAt (VS x) c x.length j).1 (j + 1)
      have ry := runAt_yes (V := VS x) (c := c) (n := x.length) (j := j)
      k_steps
      · unfold Stop
        rename Fr _ _ _ _ => F6
        rename News _ _ _ _ => N6
        refine' CT.use (signs_ct _ _ _ (by omega)) (by assumption) F6 ?xa N6 ?xb ?xc ?xd ?xe ?xf
        case xa => k_asm
        case xb => k_asm
        case xc => exact rfl
        case xd => ktr_room
        case xe => ktr_units
        intro v1 tv1 h' tk' hv1 F' N'
        rw [vs_eq] at hv1
        have hy := ry (.inl (by omega))
        subst hv1
        k_sweep
        k_steps
        unfold Stop
        rename Fr _ _ _ _ => FZ
        rename News _ _ _ _ => NZ
        refine unrEnd_lt FZ NZ ((Rad, it) :: news) (List.mem_cons_self ..) (fun p hp => List.mem_cons_of_mem _ hp) (fun p hp => .inl (hS0 p hp)) (CJ.intro (by with_unfolding_all rfl) (by with_unfolding_all rfl) (by with_unfolding_all rfl) (by with_unfolding_all rfl) (by with_unfolding_all rfl) (by with_unfolding_all rfl) (by with_unfolding_all rfl) (by rw [hy]; show (1 : Int) + (j : Int) = ((j + 1 : Nat) : Int); omega) (by rw [hy]) (by rw [hy]))
      · unfold Stop
        rename Fr _ _ _ _ => F6
        rename News _ _ _ _ => N6
        refine' CT.use (signs_ct _ _ _ (by omega)) (by assumption) F6 ?ya N6 ?yb ?yc ?yd ?ye ?yf
        case ya => k_asm
        case yb => k_asm
        case yc => exact rfl
        case yd => ktr_room
        case ye => ktr_units
        intro v1 tv1 h' tk' hv1 F' N'
        rw [vs_eq] at hv1
        have hy := ry (.inr (by omega))
        subst hv1
        k_sweep
        k_steps
        unfold Stop
        rename Fr _ _ _ _ => FZ
        rename News _ _ _ _ => NZ
        refine unrEnd_lt FZ NZ ((Rad, it) :: news) (List.mem_cons_self ..) (fun p hp => List.mem_cons_of_mem _ hp) (fun p hp => .inl (hS0 p hp)) (CJ.intro (by with_unfolding_all rfl) (by with_unfolding_all rfl) (by with_unfolding_all rfl) (by with_unfolding_all rfl) (by with_unfolding_all rfl) (by with_unfolding_all rfl) (by with_unfolding_all rfl) (by rw [hy]; show (1 : Int) + (j : Int) = ((j + 1 : Nat) : Int); omega) (by rw [hy]) (by rw [hy]))
      · have hy : runAt (VS x) c x.length (j + 1) = runAt (VS x) c x.length j := runAt_no (by omega) (by omega)
        unfold Stop
        rename Fr _ _ _ _ => FZ
        rename News _ _ _ _ => NZ
        refine unrEnd_lt FZ NZ ((Rad, it) :: news) (List.mem_cons_self ..) (fun p hp => List.mem_cons_of_mem _ hp) (fun p hp => .inl (hS0 p hp)) (CJ.intro (by with_unfolding_all rfl) (by with_unfolding_all rfl) (by with_unfolding_all rfl) (by with_unfolding_all rfl) (by with_unfolding_all rfl) (by with_unfolding_all rfl) (by with_unfolding_all rfl) (by rw [hy]) (by rw [hy]) (by rw [hy]))
    case fin2 =>
      rintro _ _ ⟨u, ts, tp, tw, rfl, rfl⟩ h7 tk7 F2 N2
      clear FD ND kD hR2
      rw [runAt_end] at F2
      by_cases hw : 0 < (runK (VS x) c x.length).2.2
      · have hy := accC_pos hw
        cases ha : (accC (VS x) x.length c).1 with
        | none =>
          rw [ha] at F2
          dsimp only [optV] at F2
          k_steps
          unfold Stop
          rename Fr _ _ _ _ => FZ
          rename News _ _ _ _ => NZ
          refine unrEnd_lt FZ NZ news (List.mem_cons_self ..) (fun p hp => List.mem_cons_of_mem _ hp) (fun p hp => .inl (hR0 p hp)) (CI.ints (by with_unfolding_all rfl) (by with_unfolding_all rfl) (by with_unfolding_all rfl) (by rw [hy, ha]; rfl) (by rw [hy]))
        | some a =>
          rw [ha] at F2
          dsimp only [optV] at F2
          k_steps
          · unfold Stop
            rename Fr _ _ _ _ => FZ
            rename News _ _ _ _ => NZ
            refine unrEnd_lt FZ NZ news (List.mem_cons_self ..) (fun p hp => List.mem_cons_of_mem _ hp) (fun p hp => .inl (hR0 p hp)) (CI.ints (by with_unfolding_all rfl) (by with_unfolding_all rfl) (by with_unfolding_all rfl) (by rw [hy, ha, om_some, if_pos (by omega)]) (by rw [hy]))
          · unfold Stop
            rename Fr _ _ _ _ => FZ
            rename News _ _ _ _ => NZ
            refine unrEnd_lt FZ NZ news (List.mem_cons_self ..) (fun p hp => List.mem_cons_of_mem _ hp) (fun p hp => .inl (hR0 p hp)) (CI.ints (by with_unfolding_all rfl) (by with_unfolding_all rfl) (by with_unfolding_all rfl) (by rw [hy, ha, om_some, if_neg (by omega)]) (by rw [hy]))
      · have hy := accC_neg hw
        k_steps
        unfold Stop
        rename Fr _ _ _ _ => FZ
        rename News _ _ _ _ => NZ
        refine unrEnd_lt FZ NZ news (List.mem_cons_self ..) (fun p hp => List.mem_cons_of_mem _ hp) (fun p hp => .inl (hR0 p hp)) (CI.intro (tf := tf) (by with_unfolding_all rfl) (by with_unfolding_all rfl) (by with_unfolding_all rfl) (by rw [hy]) (by rw [hy]))
  case fin =>
    rintro _ _ ⟨u, tf, tt, rfl, rfl⟩ h7 tk7 F2 N2
    clear FC NC keepC hR
    rw [hP, accC_best _ hn] at F2
    have lN : ∀ p ∈ news, p.1 < h7.objs.size := fun p hp => Heap.lt_size (N2 p hp).1
    k_steps
    rename Fr _ _ _ _ => kF
    rename News _ _ _ _ => kN
    exact hret _ _ _ _ _ kF kN (by first | assumption | exact lN)
end Mine

end
section
open PySem PySem.W PyProof.Rows PySem.Calls PyProof.V PySem.Builtin.Str
namespace Mine
def Letters (x : Str) : Prop := ∀ c ∈ x.cps.toList, 97 ≤ c ∧ c < 123
abbrev drawW : List Value := [(Value.str (Str.ofString "au") 2206), (Value.str (Str.ofString "bq") 2207), (Value.str (Str.ofString "db") 2208), (Value.str (Str.ofString "ff") 2209), (Value.str (Str.ofString "ffi") 2210), (Value.str (Str.ofString "ffl") 2211), (Value.str (Str.ofString "fi") 2212), (Value.str (Str.ofString "fl") 2213), (Value.str (Str.ofString "gb") 2214), (Value.str (Str.ofString "ghz") 2215), (Value.str (Str.ofString "gpa") 2216), (Value.str (Str.ofString "gy") 2217), (Value.str (Str.ofString "hp") 2218), (Value.str (Str.ofString "hpa") 2219), (Value.str (Str.ofString "hz") 2220), (Value.str (Str.ofString "ka") 2221), (Value.str (Str.ofString "kb") 2222), (Value.str (Str.ofString "khz") 2223), (Value.str (Str.ofString "kk") 2224), (Value.str (Str.ofString "km") 2225), (Value.str (Str.ofString "kpa") 2226), (Value.str (Str.ofString "kv") 2227), (Value.str (Str.ofString "kw") 2228), (Value.str (Str.ofString "ma") 2229), (Value.str (Str.ofString "mb") 2230), (Value.str (Str.ofString "mhz") 2231), (Value.str (Str.ofString "mpa") 2232), (Value.str (Str.ofString "mv") 2233), (Value.str (Str.ofString "mw") 2234), (Value.str (Str.ofString "na") 2235), (Value.str (Str.ofString "nf") 2236), (Value.str (Str.ofString "no") 2237), (Value.str (Str.ofString "nv") 2238), (Value.str (Str.ofString "nw") 2239), (Value.str (Str.ofString "ov") 2240), (Value.str (Str.ofString "pa") 2241), (Value.str (Str.ofString "pf") 2242), (Value.str (Str.ofString "ph") 2243), (Value.str (Str.ofString "ppm") 2244), (Value.str (Str.ofString "pr") 2245), (Value.str (Str.ofString "pv") 2246), (Value.str (Str.ofString "pw") 2247), (Value.str (Str.ofString "rs") 2248), (Value.str (Str.ofString "sm") 2249), (Value.str (Str.ofString "ss") 2250), (Value.str (Str.ofString "st") 2251), (Value.str (Str.ofString "sv") 2252), (Value.str (Str.ofString "tel") 2253), (Value.str (Str.ofString "thz") 2254), (Value.str (Str.ofString "tm") 2255), (Value.str (Str.ofString "wb") 2256)]
theorem tup62 {P : Params} {h : Heap} (X : (K P).In h) : IsTup h 62 (List.toArray drawW) := ⟨_, X 62 ⟨.type "tuple", none, .seq (List.toArray drawW) 0, #[]⟩ (by kernel_rfl), rfl, 0, rfl⟩
def drawChk : Bool := drawW.all fun v => match v with
  | .str y _ => (y.cps.toList.all fun c => decide (97 ≤ c) && decide (c < 123)) && decide (y.length ≤ 3)
  | _ => false
theorem draw_chk : drawChk = true := by kernel_rfl
theorem draw_at {v : Value} (h : v ∈ drawW) : ∃ y t, v = .str y t ∧ Letters y ∧ y.length ≤ 3 := by
  have hc := draw_chk
  unfold drawChk at hc
  have := List.all_eq_true.mp hc v h
  split at this
  · rename_i y t
    rw [Bool.and_eq_true] at this
    refine ⟨y, t, rfl, fun c hc => ?_, of_decide_eq_true this.2⟩
    have h2 := List.all_eq_true.mp this.1 c hc
    rw [Bool.and_eq_true] at h2
    exact ⟨of_decide_eq_true h2.1, of_decide_eq_true h2.2⟩
  · cases this
theorem draw_len : drawW.length = 51 := by decide
theorem draw_item {prog : Program} {w : World} {A : Around} {E : Value → Shared → Prop} {s : Shared} {h₀ : Heap} {L : Addr} {m : Str → Option Value} {P : Params} {k : Int} {u : Tok} {value slice : PySem.Expr} {Q : Value → Shared → Prop} (F : Fr h₀ L s.heap m) (X : (K P).In h₀) (h0 : 0 ≤ k) (h1 : k < 51)
    (h : ∀ y t, Letters y → y.length ≤ 3 → Q (.str y t) s)
    (hs : subscripted slice false (.ref 62) (.int k u) = operate [.ref 62, .int k u] (getItem (.ref 62) (.int k u)) := by with_unfolding_all rfl) (hg : ∀ r, letTemporaryGo value (.ref 62) r = pure () := by intro _; with_unfolding_all rfl) :
    wpAny (model prog w) A (subscriptTail value slice (.ref 62) (.int k u)) Q E s := by
  have T := F.tup (tup62 X)
  have hl : k.toNat < drawW.length := by rw [draw_len]; omega
  obtain ⟨y, t, e, hy, hy3⟩ := draw_at (List.getElem_mem hl)
  refine item_tuple (j := k.toNat) (x := .str y t) T (by omega) (by omega) ?_ ?_ (h y t hy hy3) hs hg
  · unfold seqIndex?
    rw [List.size_toArray, draw_len]
    have h3 : ¬ k < 0 := by omega
    simp only [h3, if_false]
    rw [if_pos (by simp only [Bool.and_eq_true, decide_eq_true_eq]; omega)]
  · rw [List.getElem?_toArray, List.getElem?_eq_getElem hl, e]
theorem letters_nil : Letters (Str.ofString "") := fun c hc => by cases hc
theorem letters_one {k : Nat} (h1 : 97 ≤ k) (h2 : k < 123) : Letters ⟨#[k]⟩ := fun c hc => by
  have : c = k := by simpa using hc
  omega
theorem letters_add {x y : Str} (hx : Letters x) (hy : Letters y) : Letters (x ++ y) := fun c hc => by
  have : c ∈ x.cps.toList ++ y.cps.toList := by
    have e : (x ++ y).cps.toList = x.cps.toList ++ y.cps.toList := by show (x.cps ++ y.cps).toList = _; simp
    rw [e] at hc; exact hc
  rcases List.mem_append.mp this with h | h
  · exact hx c h
  · exact hy c h
theorem len_add (x y : Str) : (x ++ y).length = x.length + y.length := by
  show (x.cps ++ y.cps).size = _
  rw [Array.size_append]; rfl
theorem letters_slice {x : Str} (hx : Letters x) (a b : Option Int) : Letters (Txt.slice x a b) := fun c hc => by
  unfold Txt.slice at hc
  split at hc
  · exact hx c hc
  · obtain ⟨i, _, hi⟩ := List.mem_filterMap.mp (show c ∈ List.filterMap _ _ by simpa using hc)
    exact hx c (by
      have := Array.mem_of_getElem? hi
      simpa using this)
theorem indices8 (n : Nat) : (strSliceIndices none (some 8) 1 n).length ≤ 8 := by
  unfold strSliceIndices sliceRange
  simp only [show (1 : Int) > 0 by decide, if_true, List.length_map, List.length_range]
  split <;> (try split) <;> (try simp only [Int.ediv_one]) <;> omega
theorem slice8 (x : Str) : (Txt.slice x none (some 8)).length ≤ 8 := by
  unfold Txt.slice
  have h := indices8 x.length
  split
  · rename_i he
    simp only [Bool.and_eq_true, beq_iff_eq] at he
    rw [← he.2]; exact h
  · show (List.filterMap _ (strSliceIndices none (some 8) 1 x.length)).toArray.size ≤ 8
    rw [List.size_toArray]
    exact Nat.le_trans (List.length_filterMap_le _ _) h
theorem vb_vs {x : Str} (hx : Letters x) : VB x = VS x := by
  funext s e
  unfold VB VS
  exact book_sig (letters_slice hx _ _)
end Mine

end
open PySem PySem.W PyProof.Rows PySem.Calls PyProof.V
open Mine
/-- a call from the law's own level -/
theorem Mine.CT.top {w : World} {f : Addr} {vs : List Value} {R : Heap → Addr → (Str → Option Value) → List (Addr × Obj) → Shared → (Value → Shared → Prop) → Prop} {d : Nat} (C : CT w f vs R d)
    {loose : List Str} {mean : ExcName → Option Value} {mg mb : Str → Option Value} {cn : Str} {cs : Scope} {a : Addr} {ccd : Value} {h₀ : Heap} {L : Addr}
    {m : Str → Option Value} {news : List (Addr × Obj)} {s : Shared} {Q E : Value → Shared → Prop}
    (F : Fr h₀ L s.heap m) (X : (K w.params).In h₀) (N : News h₀ L s.heap news) (T : Top vq loose mean mg mb h₀) (hk : cs.kind = .function) (hd : (callerA.deeper (envOf cn cs L a ccd)).depth + d < recursionLimit) (hu : (callerA.deeper (envOf cn cs L a ccd)).units + 40 * d < cLine)
    (hR : R h₀ L m news s Q) : wpAny (model pw w) (callerA.deeper (envOf cn cs L a ccd)) (call (.ref f) vs) Q E s :=
  C loose mean mg mb _ _ _ cn cs a ccd [] [] callerA h₀ h₀ L m news s Q E (below_caller h₀) F X N T hk hd hu hR
def Mine.LI (Da : Addr) (lo : Obj) (l : List Value) (m : Str → Option Value) (news : List (Addr × Obj)) : Prop := ∃ (u : Str → Option Value) (x : Str) (t : Tok) (ls : List Int), m = (fun y => if y = Str.ofString "word" then some (.str x t) else u y) ∧ [(Da, lo)] = news ∧ IntsAre l ls ∧ Letters x ∧ x.length + 3 * ls.length ≤ 24
theorem Mine.fm77 (x : Int) : 0 ≤ x.fmod 77 ∧ x.fmod 77 < 77 := ⟨Int.fmod_nonneg_of_pos x (by decide), Int.fmod_lt_of_pos x (by decide)⟩
local macro_rules | `(tactic| walk_at "execs cons") => `(tactic| (k_here; (with_reducible show wpAny _ _ _ _ _ { heap := _, gens := _, drawn := _, toks := _ + 1, os := _ }); k_dflt (refine Mine.gen_toks ?_); intro tk))
local macro_rules | `(tactic| walk_at "execs nil") => `(tactic| (k_here; (with_reducible show wpAny _ _ _ _ _ { heap := _, gens := _, drawn := _, toks := _ + 1, os := _ }); k_dflt (refine Mine.gen_toks ?_); intro tk))
local macro_rules | `(tactic| walk_at "eval Call") => `(tactic| (k_here; k_dflt (refine Call_ ?_)))
local macro_rules | `(tactic| walk_at "exec For") => `(tactic| (k_here; (rename Fr _ _ _ _ => lF'); (with_unfolding_all refine' For_invVF lF' ?k1 ?k2 ?_; (case k1 => exact rfl); (case k2 => exact rfl); k_whole)))
local macro_rules | `(tactic| walk_at "exec For Name Subscript cons nil") => `(tactic| (k_here; (rename Fr _ _ _ _ => lF'); (with_unfolding_all refine' For_invVF lF' ?k1 ?k2 ?_; (case k1 => exact rfl); (case k2 => exact rfl); k_whole)))
local macro_rules | `(tactic| walk_at "pyIter ref") => `(tactic| (k_here; refine Stop.out ?_; walk_say "STOP AT ITER"))
local macro_rules | `(tactic| walk_at "UnrEnd") => `(tactic| (k_here; refine Stop.out ?_; walk_say "STOP AT UNREND"))
local macro_rules | `(tactic| walk_at "call ref") => `(tactic| (k_here; refine Stop.out ?_; walk_say "STOP AT CALL"))
local macro_rules | `(tactic| walk_at "subscriptTail Name Name ref int") => `(tactic| (k_here; (with_reducible show wpAny _ _ (subscriptTail _ _ (Value.ref 62) (Value.int _ _)) _ _ _); k_dflt (refine' Mine.draw_item ?F ?X ?a ?b ?_; (case F => k_asm); (case X => k_asm); (case a => omega); (case b => omega)); intro yD tD hyD hyL; walk_say "DRAW"))
set_option maxHeartbeats 4000000 in
theorem PySem.Challenge.cw_dw5011_01_holds : PySem.Challenge.rw_dw5011_01.Holds := by
  w_on; o_law
  refine holds_open (q := Mine.vq) (loose := Mine.looseM) (Xt := Mine.XtM) (XP := XL Mine.vq []) (Yf := Hook.obs (kHook Mine.K Mine.asK Mine.as_K)) (Ya := Hook.val (kHook Mine.K Mine.asK Mine.as_K)) (YP := Hook.says (kHook Mine.K Mine.asK Mine.as_K)) (N := 50000) Mine.left (Hook.of (kHook Mine.K Mine.asK Mine.as_K)) (Hook.keeps (kHook Mine.K Mine.asK Mine.as_K)) (fun s e => xl_of s (Bool.and_eq_true_iff.mp e).1) XL.keeps (by rfl) (by rfl) (by rfl) (fun s e => recFacts_of (Bool.and_eq_true_iff.mp e).2) (by rfl) (by assumption) (by decide +kernel) ⟨rfl, rfl, rfl, rfl, rfl, by decide +kernel⟩ ?hw ?hc
  case hw => w_witness2
  w_strict (
    k_go0; (try dsimp only [rhsOf]); k_steps
    unfold Stop
    rename_i hW tkW Da ws hS FS NS hIS hCS hLS l1S
    refine iter_listUnr (by rfl) FS NS (List.mem_cons_self ..) rfl rfl (fun Iad hI0 => ?_)
    refine list_ind (I := Mine.LI Da (W.listOf ws.toArray 0)) ?turn ?fin _ _ _ ⟨_, Str.ofString "", _, _, canonM1 (by with_unfolding_all rfl), rfl, hIS, letters_nil, by rw [hCS]; show 0 + _ ≤ 24; omega⟩
    case turn =>
      have hDI : Da < Iad := hI0 (Da, _) (List.mem_cons_self ..)
      clear FS NS
      rintro v r _ _ ⟨u, x, t, ls, rfl, rfl, hIl, hLx, hLen⟩ it h7 tk7 hit F2 N2
      cases hIl with
      | cons n tn hIl' =>
      rw [List.length_cons] at hLen
      have hx24 : x.length ≤ 24 := by omega
      obtain ⟨f0, f1⟩ := Mine.fm77 n
      k_steps
      · unfold Stop
        rename_i yD tD hyD hyL _ _ _ hZ FZ NZ tkZ
        refine unrEnd_lt FZ NZ [(Da, W.listOf ws.toArray 0)] (List.mem_cons_self ..) (fun p hp => List.mem_cons_of_mem _ hp) (fun p hp => .inl (hI0 p hp)) ⟨List.mem_cons_self .., _, _, _, _, canonM1 (by with_unfolding_all rfl), rfl, hIl', letters_add hLx hyD, by rw [len_add]; omega⟩
      · unfold Stop
        rename Fr _ _ _ _ => FZ
        rename News _ _ _ _ => NZ
        refine unrEnd_lt FZ NZ [(Da, W.listOf ws.toArray 0)] (List.mem_cons_self ..) (fun p hp => List.mem_cons_of_mem _ hp) (fun p hp => .inl (hI0 p hp)) ⟨List.mem_cons_self .., _, _, _, _, canonM1 (by with_unfolding_all rfl), rfl, hIl', letters_add hLx (letters_one (by omega) (by omega)), by rw [len_add]; show x.length + 1 + _ ≤ 24; omega⟩
    rintro _ _ ⟨u, x0, t0, ls, rfl, rfl, hIl, hLx0, hLen⟩ h7 tk7 F2 N2
    clear FS NS hI0
    cases hIl
    have hx24 : x0.length ≤ 24 := by omega
    have hy8 := slice8 x0
    have hyL := letters_slice hLx0 none (some 8)
    k_steps
    unfold Stop
    rename Fr _ _ _ _ => F3
    rename News _ _ _ _ => N3
    show wpAny _ _ (call (Value.ref 76) []) _ _ _
    refine' CT.top (book_ct _) F3 ?aa3 N3 ?aa5 ?aaK ?aad ?aau ?aaR
    case aa3 => k_asm
    case aa5 => k_asm
    case aaK => exact rfl
    case aad => first | ktr_room | decide +kernel
    case aau => first | ktr_units | decide +kernel
    intro dB oB kvB hB tkB FB NB lB loB hdB hfB
    k_lt lB
    k_sweep
    k_steps
    unfold Stop
    refine' CT.top (walk_ct _ _ _ dB oB kvB hy8 loB hdB hfB) FB ?bb3 NB ?bb5 ?bbK ?bbd ?bbu ⟨List.mem_cons_self .., ?bbR⟩
    case bb3 => k_asm
    case bb5 => k_asm
    case bbK => exact rfl
    case bbd => first | ktr_room | decide +kernel
    case bbu => first | ktr_units | decide +kernel
    intro aW t1W t2W hW2 tkW2 FW NW lW
    k_lt lW
    k_sweep
    k_steps
    unfold Stop
    refine' CT.top (every_ct _ _ _ hy8) (by with_reducible assumption) ?cc3 (by with_reducible assumption) ?cc5 ?ccK ?ccd ?ccu ?ccR
    case cc3 => k_asm
    case cc5 => k_asm
    case ccK => exact rfl
    case ccd => first | ktr_room | decide +kernel
    case ccu => first | ktr_units | decide +kernel
    intro aE t1E t2E hE tkE FE NE lE
    k_lt lE
    k_sweep
    rw [vb_vs hyL] at NE
    cases hb : (best (VS (Txt.slice x0 none (some 8))) (Txt.slice x0 none (some 8)).length).1 with
    | none =>
      rw [hb] at NE
      dsimp only [optV] at NE
      k_steps
    | some b =>
      rw [hb] at NE
      dsimp only [optV] at NE
      k_steps
      done)

