import PyProof.Rows.All
import Wide.All
import OpenK.AllK
import Wide.FinOn
import Lean
import PySem.Challenge.RW_dw5011_02
set_option Elab.async false
set_option maxRecDepth 100000
set_option linter.unusedVariables false
section
open PySem PySem.W PyProof.Rows PySem.Calls
namespace Mine

section
variable {p : Program} {w : World} {n₀ : Nat} {ann : Option Value}

theorem segGo_add : ∀ {n m : Nat} {s s1 : Shared} {t t1 : Thread} {r : Shared × Thread}, segGo treeTable p w n₀ ann 1 n s t = some (s1, t1) →
    segGo treeTable p w n₀ ann 1 m s1 t1 = some r → segGo treeTable p w n₀ ann 1 (n + m) s t = some r
  | 0, m, s, s1, t, t1, r, h, k => by
    obtain ⟨rfl, rfl⟩ : s = s1 ∧ t = t1 := by simpa [segGo] using h
    rw [Nat.zero_add]; exact k
  | n + 1, m, s, s1, t, t1, r, h, k => by
    rw [show n + 1 + m = n + m + 1 by omega]
    unfold segGo at h ⊢
    cases he : endAt 1 t with
    | some f => rw [he] at h; cases h
    | none =>
      rw [he] at h
      cases hk : stepOk n₀ ann t with
      | false => rw [hk] at h; cases h
      | true =>
        rw [hk] at h
        cases hs : step (denote treeTable) p w s t with
        | halt o s' => rw [hs] at h; cases h
        | go s' t' => rw [hs] at h; exact segGo_add h k

variable (p w n₀ ann) in
/-- it comes there in so many steps -/
def Reach (n : Nat) (s : Shared) (t : Thread) (s' : Shared) (t' : Thread) : Prop := segGo treeTable p w n₀ ann 1 n s t = some (s', t')

theorem Reach.rfl' {s : Shared} {t : Thread} : Reach p w n₀ ann 0 s t s t := rfl
theorem Reach.trans {n n' : Nat} {s s1 s2 : Shared} {t t1 t2 : Thread} (h : Reach p w n₀ ann n s t s1 t1) (k : Reach p w n₀ ann n' s1 t1 s2 t2) : Reach p w n₀ ann (n + n') s t s2 t2 := segGo_add h k
theorem Reach.one {s s1 : Shared} {t t1 : Thread} (h1 : endAt 1 t = none) (h2 : stepOk n₀ ann t = true) (h3 : step (denote treeTable) p w s t = .go s1 t1) : Reach p w n₀ ann 1 s t s1 t1 := by
  unfold Reach segGo; rw [h1, h2, h3]; rfl

variable (p w n₀ ann) in
/-- m: the steps told so far -/
def Wp (c : Code) (st : List Frame) {α : Type} (t : Sem α) (Q : α → Pos → Shared → Nat → Prop) (pos : Pos) (s : Shared) (m : Nat) : Prop :=
  ∃ a pos' s' n, Q a pos' s' (m + n) ∧ ∀ (K : α → Sem Fin) (H : Value → Sem Fin) (gd : Bool → Bool) (lv : List Value → List Value),
    Reach p w n₀ ann n s ⟨t.wrap K H gd lv, c, pos, st⟩ s' ⟨K a, c, pos', st⟩

section
variable {c : Code} {st : List Frame} {α β : Type} {pos : Pos} {s : Shared} {m : Nat}
theorem Wp.pure {a : α} {Q : α → Pos → Shared → Nat → Prop} (h : Q a pos s m) : Wp p w n₀ ann c st (.pure a) Q pos s m := ⟨a, pos, s, 0, h, fun _ _ _ _ => .rfl'⟩
theorem Wp.bind {t : Sem α} {f : α → Sem β} {Q : β → Pos → Shared → Nat → Prop} (h : Wp p w n₀ ann c st t (fun a pos' s' n => Wp p w n₀ ann c st (f a) Q pos' s' n) pos s m) :
    Wp p w n₀ ann c st (t >>= f) Q pos s m := by
  obtain ⟨a, p1, s1, n1, ⟨x, p2, s2, n2, hQ, h2⟩, h1⟩ := h
  refine ⟨x, p2, s2, n1 + n2, by rw [← Nat.add_assoc]; exact hQ, fun K H gd lv => ?_⟩
  have e : (t >>= f).wrap K H gd lv = t.wrap (fun a => (f a).wrap K H gd lv) H gd lv := by
    rw [Sem.bind_eq_wrap', Sem.wrap_wrap]; rfl
  rw [e]
  exact (h1 _ H gd lv).trans (h2 K H gd lv)
theorem Wp.keep {t : Sem α} {Q : α → Pos → Shared → Nat → Prop} {vs : List Value} (h : Wp p w n₀ ann c st t Q pos s m) : Wp p w n₀ ann c st (t.keep vs) Q pos s m := by
  obtain ⟨a, p1, s1, n1, hQ, h1⟩ := h
  refine ⟨a, p1, s1, n1, hQ, fun K H gd lv => ?_⟩
  have e : (t.keep vs).wrap K H gd lv = t.wrap K H gd (fun l => lv (vs ++ l)) := by
    rw [Sem.keep_eq_wrap, Sem.wrap_wrap]; rfl
  rw [e]
  exact h1 K H gd _
theorem Wp.holding {t : Sem α} {Q : α → Pos → Shared → Nat → Prop} {vs : List Value} (h : Wp p w n₀ ann c st t Q pos s m) : Wp p w n₀ ann c st (holding vs t) Q pos s m := by
  unfold PySem.holding
  split
  · exact h
  · exact h.keep
theorem Wp.onRaise {t : Sem α} {Q : α → Pos → Shared → Nat → Prop} {g : Value → Sem Unit} (h : Wp p w n₀ ann c st t Q pos s m) : Wp p w n₀ ann c st (t.onRaise g) Q pos s m := by
  obtain ⟨a, p1, s1, n1, hQ, h1⟩ := h
  refine ⟨a, p1, s1, n1, hQ, fun K H gd lv => ?_⟩
  rw [Sem.onRaise_eq_wrap, Sem.wrap_wrap]
  exact h1 _ _ _ _
theorem Wp.mono {t : Sem α} {Q Q' : α → Pos → Shared → Nat → Prop} (h : Wp p w n₀ ann c st t Q pos s m) (k : ∀ a p' s' n, Q a p' s' n → Q' a p' s' n) : Wp p w n₀ ann c st t Q' pos s m := by
  obtain ⟨a, p1, s1, n1, hQ, h1⟩ := h
  exact ⟨a, p1, s1, n1, k _ _ _ _ hQ, h1⟩

theorem Wp.node {n : Nat} {t : Sem α} {Q : α → Pos → Shared → Nat → Prop} {pos' : Pos} {s' : Shared} {t' : Sem α} (h : ∀ K H gd lv, Reach p w n₀ ann n s ⟨t.wrap K H gd lv, c, pos, st⟩ s' ⟨t'.wrap K H gd lv, c, pos', st⟩)
    (k : Wp p w n₀ ann c st t' Q pos' s' (m + n)) : Wp p w n₀ ann c st t Q pos s m := by
  obtain ⟨a, p1, s1, n1, hQ, h1⟩ := k
  exact ⟨a, p1, s1, n + n1, by rw [← Nat.add_assoc]; exact hQ, fun K H gd lv => (h K H gd lv).trans (h1 K H gd lv)⟩

theorem Wp.loadN {a : Addr} {part : Option Value} {k : Obj → Sem α} {o : Obj} {Q : α → Pos → Shared → Nat → Prop} (ho : s.heap.get? a = some o) (h : Wp p w n₀ ann c st (k o) Q pos s (m + 1)) : Wp p w n₀ ann c st (.load a part k) Q pos s m := by
  refine .node (fun K H gd lv => ?_) h
  refine .one (by unfold endAt Sem.wrap; split <;> simp_all) rfl ?_
  obtain ⟨hp, g, d, tk, os⟩ := s
  simp only [Sem.wrap, step]
  rw [show hp.get? a = some o from ho]
theorem Wp.updateN {a : Addr} {part : Option Value} {f : Obj → Obj} {k : Unit → Sem α} {Q : α → Pos → Shared → Nat → Prop} (ho : (s.heap.get? a).isSome = true) (hn : n₀ ≤ a) (h : Wp p w n₀ ann c st (k ()) Q pos { s with heap := s.heap.update a f } (m + 1)) :
    Wp p w n₀ ann c st (.update a part f k) Q pos s m := by
  refine .node (fun K H gd lv => ?_) h
  refine .one (by unfold endAt Sem.wrap; split <;> simp_all) ?_ ?_
  · have : Nat.ble n₀ a = true := Nat.ble_eq_true_of_le hn
    unfold stepOk
    simp only [Sem.wrap, this, Bool.true_or, Bool.and_true]
    rfl
  obtain ⟨hp, g, d, tk, os⟩ := s
  simp only [Sem.wrap, step]
  rw [if_pos ho]
theorem Wp.allocN {o : Obj} {k : Addr → Sem α} {Q : α → Pos → Shared → Nat → Prop} (h : Wp p w n₀ ann c st (k s.heap.objs.size) Q pos { s with heap := s.heap.push o } (m + 1)) : Wp p w n₀ ann c st (.alloc o k) Q pos s m := by
  refine .node (fun K H gd lv => ?_) h
  exact .one (by unfold endAt Sem.wrap; split <;> simp_all) rfl rfl
theorem Wp.freshN {k : Tok → Sem α} {Q : α → Pos → Shared → Nat → Prop} (h : Wp p w n₀ ann c st (k s.toks) Q pos { s with toks := s.toks + 1 } (m + 1)) : Wp p w n₀ ann c st (.fresh k) Q pos s m := by
  refine .node (fun K H gd lv => ?_) h
  exact .one (by unfold endAt Sem.wrap; split <;> simp_all) rfl rfl
theorem Wp.ruleN {r : String} {k : Unit → Sem α} {Q : α → Pos → Shared → Nat → Prop} (h : Wp p w n₀ ann c st (k ()) Q pos s (m + 1)) : Wp p w n₀ ann c st (.rule r k) Q pos s m := by
  refine .node (fun K H gd lv => ?_) h
  exact .one (by unfold endAt Sem.wrap; split <;> simp_all) rfl rfl
theorem Wp.atN {q : Pos} {k : Unit → Sem α} {Q : α → Pos → Shared → Nat → Prop} (h : Wp p w n₀ ann c st (k ()) Q q s (m + 1)) : Wp p w n₀ ann c st (.at q k) Q pos s m := by
  refine .node (fun K H gd lv => ?_) h
  exact .one (by unfold endAt Sem.wrap; split <;> simp_all) rfl rfl
theorem Wp.askN {k : Setting → Sem α} {Q : α → Pos → Shared → Nat → Prop} (h : Wp p w n₀ ann c st (k ⟨p, w.params⟩) Q pos s (m + 1)) : Wp p w n₀ ann c st (.ask k) Q pos s m := by
  refine .node (fun K H gd lv => ?_) h
  exact .one (by unfold endAt Sem.wrap; split <;> simp_all) rfl rfl
end
end
end Mine

namespace Mine
theorem den_call_hash (i : Int) (t : Tok) : denote treeTable (.call (.builtin "int.__hash__") ⟨[.int i t], []⟩) = .pure (.again (.builtin "int.__hash__" ⟨[.int i t], []⟩)) := by kernel_rfl
theorem den_hash (i : Int) (t : Tok) : denote treeTable (.builtin "int.__hash__" ⟨[.int i t], []⟩) = .fresh fun u => .pure (.done (.ret (.int (rawHash i) u))) := by kernel_rfl
theorem hash_slot (i : Int) (t : Tok) : specialOf (.int i t) "__hash__" = (pure (some (.builtin "int.__hash__")) : Sem (Option Value)) := by kernel_rfl
theorem hash_bindSpecial (i : Int) (t : Tok) : bindSpecial (.builtin "int.__hash__") (.int i t) = (pure (.builtin "int.__hash__", [.int i t]) : Sem (Value × List Value)) := by kernel_rfl

section
variable {p : Program} {w : World} {n₀ : Nat} {ann : Option Value} {c : Code} {fr : Frame} {st : List Frame} {pos : Pos} {s : Shared} {m : Nat}

theorem Wp.call_hash {α : Type} {i : Int} {t : Tok} {g : Bool} {l : List Value} {k : Result → Sem α} {Q : α → Pos → Shared → Nat → Prop}
    (h : Wp p w n₀ ann c (fr :: st) (k (.ok (.ret (.int (rawHash i) s.toks)))) Q pos { s with toks := s.toks + 1 } (m + (1 + (1 + (1 + 1))))) :
    Wp p w n₀ ann c (fr :: st) (.call (.call (.builtin "int.__hash__") ⟨[.int i t], []⟩) none g l k) Q pos s m := by
  refine .node (fun K H gd lv => ?_) h
  obtain ⟨hp, gs, d, tk, os⟩ := s
  have e2 : ∀ (x : Frame) (l : List Frame), ((x :: fr :: l).length == 1) = false := fun x l => by simp
  refine .trans (s1 := ⟨hp, gs, d, tk, os⟩) (t1 := ?t1) (.one (by simp [endAt, Sem.wrap]) rfl (by simp only [Sem.wrap, step]; exact rfl)) ?_
  rw [den_call_hash]
  refine .trans (s1 := ⟨hp, gs, d, tk, os⟩) (t1 := ?t2) (.one (by simp [endAt]) ?_ (by simp only [step]; exact rfl)) ?_
  · have e : ("int.__hash__".startsWith "lifetime.") = false := by decide +kernel
    show (((!("int.__hash__".startsWith "lifetime.") || _) && !false && true) && true) = true
    rw [e]; rfl
  rw [den_hash]
  refine .trans (s1 := ⟨hp, gs, d, tk + 1, os⟩) (t1 := ?t3) (.one (by simp [endAt]) rfl (by simp only [step]; exact rfl)) ?_
  exact .one (by simp [endAt]) rfl (by simp only [step])
theorem Wp.ite_same {α : Type} {b : Prop} [Decidable b] {t t1 t2 : Sem α} {Q : α → Pos → Shared → Nat → Prop} (h1 : t1 = t) (h2 : t2 = t) (h : Wp p w n₀ ann c st t Q pos s m) : Wp p w n₀ ann c st (if b then t1 else t2) Q pos s m := by
  rw [h1, h2, ite_self]; exact h
theorem Wp.pyHash_int {i : Int} {t : Tok} {Q : Int → Pos → Shared → Nat → Prop} (h : ∀ n, n ≤ m + 5 → Q (hashInt i) pos { s with toks := s.toks + 1 } n) :
    Wp p w n₀ ann c (fr :: st) (pyHash (.int i t)) Q pos s m := by
  have hr := rawHash_range i
  unfold pyHash pyHashByItsType
  refine .bind ?_
  rw [cRoomFor, if_neg (by simp [Value.onHeap])]
  refine .pure ?_
  rw [hash_slot]
  refine .bind (.pure ?_)
  rw [if_neg (by decide)]
  refine .bind (.pure ?_)
  rw [if_neg (by decide)]
  unfold callSpecialIfBoundUnlessNone? bindSpecialIfBound?
  refine .bind (.holding (.bind ?_))
  rw [hash_slot]
  refine .bind (.pure ?_)
  dsimp only
  refine .bind (.askN (.pure ?_))
  refine .ite_same (t := Sem.pure (some (.builtin "int.__hash__", [.int i t]))) (by rw [hash_bindSpecial]; rfl) (by rw [hash_bindSpecial]; rfl) ?_
  refine .pure ?_
  dsimp only
  rw [if_neg (by decide)]
  unfold call runValue run
  refine .bind (.bind (.call_hash ?_))
  refine Wp.pure ?_
  refine Wp.pure ?_
  refine Wp.pure ?_
  dsimp only
  unfold pyHashByItsType.reduced
  rw [if_pos (by rw [decide_eq_true hr.1, decide_eq_true hr.2]; rfl)]
  exact .pure (h _ (by omega))
end
end Mine

namespace Mine
/-- the heap that stood, and behind it the objects made since -/
def hp (base : Heap) (l : List Obj) : Heap := ⟨base.objs ++ l.toArray, base.life⟩
abbrev dO (es : List DictEntry) (n : Nat) : Obj := { cls := .type "dict", data := .dict es.toArray n }

theorem hp_size (base : Heap) (l : List Obj) : (hp base l).objs.size = base.objs.size + l.length := by simp [hp]
theorem hp_push (base : Heap) (l : List Obj) (o : Obj) : (hp base l).push o = hp base (l ++ [o]) := by
  simp [hp, Heap.push]
theorem hp_get {base : Heap} {l : List Obj} {i : Nat} {es : List DictEntry} {n : Nat} (h : l[i]? = some (dO es n)) : (hp base l).get? (base.objs.size + i) = some (dO es n) := by
  unfold Heap.get? hp
  have e : (base.objs ++ l.toArray)[base.objs.size + i]? = some (dO es n) := by
    rw [Array.getElem?_append_right (by omega)]
    simpa using h
  simp only [e]
theorem hp_update {base : Heap} {l : List Obj} {i : Nat} (f : Obj → Obj) (h : i < l.length) : (hp base l).update (base.objs.size + i) f = hp base (l.modify i f) := by
  unfold Heap.update hp
  simp only [Heap.mk.injEq, and_true]
  apply Array.ext_getElem?
  intro j
  rw [Array.getElem?_modify]
  by_cases hj : j < base.objs.size
  · rw [Array.getElem?_append_left hj, Array.getElem?_append_left hj, if_neg (by omega)]
  · rw [Array.getElem?_append_right (by omega), Array.getElem?_append_right (by omega)]
    simp only [List.getElem?_toArray, List.getElem?_modify]
    by_cases e : base.objs.size + i = j
    · subst e; simp
    · have q : i ≠ j - base.objs.size := by omega
      rw [if_neg e]; simp [q]

section
variable {p : Program} {w : World} {n₀ : Nat} {ann : Option Value} {c : Code} {fr : Frame} {st : List Frame} {pos : Pos} {s : Shared} {m : Nat}

theorem Wp.dictEntries {a : Addr} {part : Option Value} {es : List DictEntry} {n : Nat} {Q : Array DictEntry → Pos → Shared → Nat → Prop} (ho : s.heap.get? a = some (dO es n)) (h : Q es.toArray pos s (m + 1)) :
    Wp p w n₀ ann c st (dictEntries a part) Q pos s m := by
  unfold PySem.dictEntries loadPart
  exact .bind (.loadN ho (Wp.pure (Wp.pure h)))
theorem Wp.dictEpoch {a : Addr} {part : Option Value} {es : List DictEntry} {n : Nat} {Q : Nat → Pos → Shared → Nat → Prop} (ho : s.heap.get? a = some (dO es n)) (h : Q n pos s (m + 1)) :
    Wp p w n₀ ann c st (dictEpoch a part) Q pos s m := by
  unfold PySem.dictEpoch loadPart
  exact .bind (.loadN ho (Wp.pure (Wp.pure h)))

theorem places_nil {es : List DictEntry} {h : Int} (hn : ∀ e ∈ es, e.hash ≠ h) : placesWithHash es.toArray.size (fun i => es.toArray[i]?.map (·.hash)) h = [] := by
  unfold placesWithHash
  rw [List.filter_eq_nil_iff]
  intro i hi
  have hlt : i < es.length := by simpa using hi
  have := hn es[i] (List.getElem_mem hlt)
  simp [hlt, this]

theorem Wp.dictFind_new {d : Addr} {es : List DictEntry} {n : Nat} {k : Int} {t : Tok} {h : Int} {Q : Option Nat → Pos → Shared → Nat → Prop} (ho : s.heap.get? d = some (dO es n)) (hn : ∀ e ∈ es, e.hash ≠ h) (hq : Q none pos s (m + 1)) :
    Wp p w n₀ ann c st (dictFind d (.int k t) h) Q pos s m := by
  unfold dictFind
  refine .holding (.bind (.dictEntries ho ?_))
  dsimp only
  rw [places_nil hn]
  rw [if_pos (by simp [carriedByValue])]
  unfold dictWalkPlain
  exact .bind (.pure (.pure hq))

theorem Wp.updateDictKeys {base : Heap} {l : List Obj} {i : Nat} {es : List DictEntry} {n : Nat} {e : DictEntry} {part : Option Value} {Q : Unit → Pos → Shared → Nat → Prop} (hs : s.heap = hp base l) (hl : l[i]? = some (dO es n)) (hb : n₀ ≤ base.objs.size) (hz : es.length ≤ 10000)
    (h : Q () pos { s with heap := hp base (l.set i (dO (es ++ [e]) (n + 1))) } (m + 1 + 1 + 1)) : Wp p w n₀ ann c st (updateDictKeys (base.objs.size + i) (·.push e) part) Q pos s m := by
  have hi : i < l.length := by
    rcases Nat.lt_or_ge i l.length with q | q
    · exact q
    · rw [List.getElem?_eq_none q] at hl; cases hl
  have ho : s.heap.get? (base.objs.size + i) = some (dO es n) := by rw [hs]; exact hp_get hl
  unfold PySem.updateDictKeys loadPart updatePart lookBehind
  refine .bind (.loadN ho (Wp.pure ?_))
  dsimp only
  have hup : s.heap.update (base.objs.size + i) (Obj.mapDictKeys (·.push e)) = hp base (l.set i (dO (es ++ [e]) (n + 1))) := by
    rw [hs, hp_update _ hi]
    congr 1
    apply List.ext_getElem?
    intro j
    rw [List.getElem?_modify, List.getElem?_set]
    by_cases q : i = j
    · subst q
      rw [hl]
      simp [hi, Obj.mapDictKeys]
    · simp [q]
  refine .bind (.updateN (by rw [ho]; rfl) (by omega) (Wp.pure ?_))
  rw [hup]
  have ho2 : (hp base (l.set i (dO (es ++ [e]) (n + 1)))).get? (base.objs.size + i) = some (dO (es ++ [e]) (n + 1)) := hp_get (by simp [hi])
  refine .bind (.loadN ho2 (Wp.pure ?_))
  have hpl : (dO (es ++ [e]) (n + 1)).data.pastItsLine = none := by
    show (if (es ++ [e]).toArray.size > sizeLine + 1 then some "dict:memory" else none) = none
    rw [if_neg]
    have : sizeLine = 2 ^ 24 := rfl
    simp; omega
  rw [hpl]
  exact Wp.pure h
end
end Mine

namespace Mine
abbrev kvE (k : Int) (x : Str) (t u : Tok) : DictEntry := ⟨hashInt k, .int k t, .str x u⟩
/-- the entries that a long run (its hashes drawn between) makes; a short run's -/
def entsL : Nat → List (Int × Str) → List DictEntry
  | _, [] => []
  | t, (k, x) :: r => kvE k x t (t + 1) :: entsL (t + 3) r
def entsS : Nat → List (Int × Str) → List DictEntry
  | _, [] => []
  | t, (k, x) :: r => kvE k x t (t + 1) :: entsS (t + 2) r
theorem entsL_len : ∀ (t : Nat) (r : List (Int × Str)), (entsL t r).length = r.length
  | _, [] => rfl
  | t, (k, x) :: r => by simp [entsL, entsL_len (t + 3) r]
theorem entsS_len : ∀ (t : Nat) (r : List (Int × Str)), (entsS t r).length = r.length
  | _, [] => rfl
  | t, (k, x) :: r => by simp [entsS, entsS_len (t + 2) r]

section
variable {p : Program} {w : World} {n₀ : Nat} {ann : Option Value} {c : Code} {fr : Frame} {st : List Frame} {pos : Pos} {s : Shared} {m : Nat}

theorem Wp.dictSet_new {base : Heap} {l : List Obj} {i : Nat} {es : List DictEntry} {n : Nat} {k : Int} {t : Tok} {v : Value} {Q : Unit → Pos → Shared → Nat → Prop} (hs : s.heap = hp base l) (hl : l[i]? = some (dO es n)) (hb : n₀ ≤ base.objs.size) (hz : es.length ≤ 10000)
    (hn : ∀ e ∈ es, e.hash ≠ hashInt k) (h : ∀ j, j ≤ m + 20 → Q () pos { s with heap := hp base (l.set i (dO (es ++ [⟨hashInt k, .int k t, v⟩]) (n + 1))), toks := s.toks + 1 } j) :
    Wp p w n₀ ann c (fr :: st) (dictSet (base.objs.size + i) (.int k t) v) Q pos s m := by
  unfold dictSet
  refine .holding (.bind (.pyHash_int fun j hj => ?_))
  unfold dictSetHashed
  refine .holding (.bind (.dictFind_new (s := { s with toks := s.toks + 1 }) (es := es) (n := n) (by rw [show ({ s with toks := s.toks + 1 } : Shared).heap = hp base l from hs]; exact hp_get hl) hn ?_))
  dsimp only
  unfold rule
  refine .bind (.ruleN (Wp.pure ?_))
  exact .updateDictKeys (s := { s with toks := s.toks + 1 }) hs hl hb hz (h _ (by omega))

theorem Wp.dictPut_new {base : Heap} {l : List Obj} {i : Nat} {es : List DictEntry} {n : Nat} {k : Int} {t : Tok} {v : Value} {Q : Unit → Pos → Shared → Nat → Prop} (hs : s.heap = hp base l) (hl : l[i]? = some (dO es n)) (hb : n₀ ≤ base.objs.size) (hz : es.length ≤ 10000)
    (hn : ∀ e ∈ es, e.hash ≠ hashInt k) (h : ∀ j, j ≤ m + 10 → Q () pos { s with heap := hp base (l.set i (dO (es ++ [⟨hashInt k, .int k t, v⟩]) (n + 1))) } j) :
    Wp p w n₀ ann c st (dictPut (base.objs.size + i) (hashInt k) (.int k t) v) Q pos s m := by
  unfold dictPut
  refine .bind (.dictFind_new (es := es) (n := n) (by rw [hs]; exact hp_get hl) hn ?_)
  dsimp only
  exact .updateDictKeys hs hl hb hz (h _ (by omega))

/-- a tree that hands back the text and moves one token on -/
def Const1 (t : Sem Value) (f : Tok → Value) : Prop := t = .fresh fun u => .pure (f u)
/-- a tree that does so and then stands elsewhere -/
def Const1A (t : Sem Value) (f : Tok → Value) : Prop := ∃ q, t = .fresh fun u => .at q fun _ => .pure (f u)

inductive Pairs2 : List (Sem Value × Sem Value) → List (Int × Str) → Prop
  | nil : Pairs2 [] []
  | cons {a b : Sem Value} {k : Int} {x : Str} {r : List (Sem Value × Sem Value)} {q : List (Int × Str)} : Const1 a (.int k) → Const1A b (.str x) → Pairs2 r q → Pairs2 ((a, b) :: r) ((k, x) :: q)
theorem Pairs2.length {r : List (Sem Value × Sem Value)} {q : List (Int × Str)} (h : Pairs2 r q) : r.length = q.length := by
  induction h with
  | nil => rfl
  | cons _ _ _ ih => simp [ih]
theorem Pairs2.append {r r' : List (Sem Value × Sem Value)} {q q' : List (Int × Str)} (h : Pairs2 r q) (h' : Pairs2 r' q') : Pairs2 (r ++ r') (q ++ q') := by
  induction h with
  | nil => exact h'
  | cons a b _ ih => exact .cons a b ih

theorem Wp.const1 {t : Sem Value} {f : Tok → Value} {Q : Value → Pos → Shared → Nat → Prop} (h : Const1 t f) (k : Q (f s.toks) pos { s with toks := s.toks + 1 } (m + 1)) : Wp p w n₀ ann c st t Q pos s m := by
  rw [h]; exact .freshN (.pure k)
theorem Wp.const1A {t : Sem Value} {f : Tok → Value} {Q : Value → Pos → Shared → Nat → Prop} (h : Const1A t f) (k : ∀ q, Q (f s.toks) q { s with toks := s.toks + 1 } (m + 1 + 1)) : Wp p w n₀ ann c st t Q pos s m := by
  obtain ⟨q, h⟩ := h
  rw [h]; exact .freshN (.atN (.pure (k q)))

/-- all the keys' hashes differ -/
def Apart (es : List DictEntry) : List (Int × Str) → Prop
  | [] => True
  | (k, _) :: r => (∀ e ∈ es, e.hash ≠ hashInt k) ∧ (∀ q ∈ r, hashInt q.1 ≠ hashInt k) ∧ Apart es r
theorem Apart.push {es : List DictEntry} {e : DictEntry} : ∀ {r : List (Int × Str)}, Apart es r → (∀ q ∈ r, hashInt q.1 ≠ e.hash) → Apart (es ++ [e]) r
  | [], _, _ => trivial
  | (k, x) :: r, ⟨h1, h2, h3⟩, h => ⟨fun e' he' => by
      rcases List.mem_append.mp he' with q | q
      · exact h1 e' q
      · rw [List.mem_singleton.mp q]; exact (h (k, x) (.head _)).symm, h2, h3.push fun q hq => h q (.tail _ hq)⟩
theorem Apart.next {es : List DictEntry} {k : Int} {x : Str} {t u : Tok} {r : List (Int × Str)} (h : Apart es ((k, x) :: r)) : Apart (es ++ [kvE k x t u]) r := h.2.2.push h.2.1

theorem set_last (l : List Obj) (o o' : Obj) : (l ++ [o]).set l.length o' = l ++ [o'] := by simp
theorem get_last (l : List Obj) (o : Obj) : (l ++ [o])[l.length]? = some o := by simp

/-- the long run's loop -/
theorem wpLongLoop {base : Heap} {l : List Obj} : ∀ {prs : List (Sem Value × Sem Value)} {kv : List (Int × Str)} (_ : Pairs2 prs kv) {es : List DictEntry} {n : Nat} {pos : Pos} {s : Shared} {m : Nat} {Q : PUnit → Pos → Shared → Nat → Prop}
    (_ : s.heap = hp base (l ++ [dO es n])) (_ : n₀ ≤ base.objs.size) (_ : es.length + kv.length ≤ 10000) (_ : Apart es kv)
    (_ : ∀ q j, j ≤ m + 30 * kv.length → Q ⟨⟩ q { s with heap := hp base (l ++ [dO (es ++ entsL s.toks kv) (n + kv.length)]), toks := s.toks + 3 * kv.length } j),
    Wp p w n₀ ann c (fr :: st) (forIn prs PUnit.unit fun x _ => do
        let kv ← x.1
        let vv ← holding [kv] x.2
        holding [kv, vv] (dictSet (base.objs.size + l.length) kv vv)
        pure (ForInStep.yield PUnit.unit)) Q pos s m
  | [], _, .nil, es, n, pos, s, m, Q, hs, hb, hz, ha, h => by
    rw [List.forIn_nil]
    refine .pure ?_
    have := h pos m (by omega)
    simp only [entsL, List.append_nil, List.length_nil, Nat.add_zero, Nat.mul_zero] at this
    rw [← hs] at this
    exact this
  | _, _, .cons (a := a) (b := b) (k := k) (x := x) (r := r) (q := q) h1 h2 h3, es, n, pos, s, m, Q, hs, hb, hz, ha, h => by
    rw [List.forIn_cons]
    refine .bind (.bind (.const1 h1 ?_))
    refine .bind (.holding (.const1A h2 fun pq => ?_))
    refine .bind (.holding ?_)
    refine .dictSet_new (s := { s with toks := s.toks + 2 }) (l := l ++ [dO es n]) (es := es) (n := n) (by exact hs) (get_last _ _) hb (by simp at hz; omega) ha.1 fun j0 hj0 => ?_
    rw [set_last]
    refine .pure ?_
    dsimp only
    refine wpLongLoop h3 (es := es ++ [kvE k x s.toks (s.toks + 1)]) (n := n + 1) (s := { s with heap := hp base (l ++ [dO (es ++ [kvE k x s.toks (s.toks + 1)]) (n + 1)]), toks := s.toks + 2 + 1 }) rfl hb (by simp at hz ⊢; omega) ha.next fun q' j hj => ?_
    have := h q' j (by simp only [List.length_cons]; omega)
    simp only [entsL, List.length_cons] at this
    simp only [List.append_assoc, List.singleton_append]
    rw [show n + 1 + q.length = n + (q.length + 1) by omega, show s.toks + 2 + 1 + 3 * q.length = s.toks + 3 * (q.length + 1) by omega]
    exact this
end
end Mine

namespace Mine
section
variable {p : Program} {w : World} {n₀ : Nat} {ann : Option Value} {c : Code} {fr : Frame} {st : List Frame} {pos : Pos} {s : Shared} {m : Nat}

theorem wpSubLong {base : Heap} {l : List Obj} {prs : List (Sem Value × Sem Value)} {kv : List (Int × Str)} {Q : Addr → Pos → Shared → Nat → Prop} (hP : Pairs2 prs kv) (hlen : ¬ kv.length ≤ 15) (hs : s.heap = hp base l) (hb : n₀ ≤ base.objs.size) (hz : kv.length ≤ 10000) (ha : Apart [] kv)
    (h : ∀ q j, j ≤ m + 30 * kv.length + 10 → Q (base.objs.size + l.length) q { s with heap := hp base (l ++ [dO (entsL s.toks kv) kv.length]), toks := s.toks + 3 * kv.length } j) :
    Wp p w n₀ ann c (fr :: st) (subDict prs) Q pos s m := by
  unfold subDict alloc
  refine .bind (.allocN ?_)
  refine Wp.pure ?_
  have hsz : s.heap.objs.size = base.objs.size + l.length := by rw [hs, hp_size]
  have hpu : s.heap.push { cls := .type "dict", data := .dict #[] } = hp base (l ++ [dO [] 0]) := by rw [hs, hp_push]
  rw [hsz, hpu]
  refine .bind (.holding ?_)
  rw [if_neg (by rw [hP.length]; exact hlen)]
  unfold rule
  refine .bind (.ruleN (Wp.pure ?_))
  refine .bind (wpLongLoop (s := { s with heap := hp base (l ++ [dO [] 0]) }) hP rfl hb (by simpa using hz) ha fun q j hj => ?_)
  refine Wp.pure ?_
  refine Wp.pure ?_
  have := h q j (by omega)
  simpa using this

theorem wpEvalPairs {base : Heap} : ∀ {prs : List (Sem Value × Sem Value)} {kv : List (Int × Str)} (_ : Pairs2 prs kv) {pos : Pos} {s : Shared} {m : Nat} {Q : List (Value × Value) → Pos → Shared → Nat → Prop}
    (_ : ∀ q j, j ≤ m + 3 * kv.length → Q ((entsS s.toks kv).map fun e => (e.key, e.val)) q { s with toks := s.toks + 2 * kv.length } j), Wp p w n₀ ann c st (evalPairs prs) Q pos s m
  | [], _, .nil, pos, s, m, Q, h => by
    unfold evalPairs
    exact Wp.pure (h pos m (by omega))
  | _, _, .cons (a := a) (b := b) (k := k) (x := x) (r := r) (q := q) h1 h2 h3, pos, s, m, Q, h => by
    unfold evalPairs
    refine .bind (.const1 h1 ?_)
    refine .bind (.holding (.const1A h2 fun pq => ?_))
    refine .bind (.holding (wpEvalPairs (base := base) h3 (s := { s with toks := s.toks + 2 }) fun q' j hj => ?_))
    refine Wp.pure ?_
    have := h q' j (by simp only [List.length_cons]; omega)
    simp only [entsS, List.map_cons, List.length_cons] at this
    rw [show s.toks + 2 + 2 * q.length = s.toks + 2 * (q.length + 1) by omega]
    exact this

/-- the short run's loop: over the pairs evaluated -/
theorem wpShortLoop {base : Heap} {l : List Obj} : ∀ {kv : List (Int × Str)} {t : Nat} {es : List DictEntry} {n : Nat} {pos : Pos} {s : Shared} {m : Nat} {Q : PUnit → Pos → Shared → Nat → Prop}
    (_ : s.heap = hp base (l ++ [dO es n])) (_ : n₀ ≤ base.objs.size) (_ : es.length + kv.length ≤ 10000) (_ : Apart es kv)
    (_ : ∀ j, j ≤ m + 20 * kv.length → Q ⟨⟩ pos { s with heap := hp base (l ++ [dO (es ++ entsS t kv) (n + kv.length)]), toks := s.toks + kv.length } j),
    Wp p w n₀ ann c (fr :: st) (forIn ((entsS t kv).map fun e => (e.key, e.val)) PUnit.unit fun x _ => do
        dictSet (base.objs.size + l.length) x.1 x.2
        pure (ForInStep.yield PUnit.unit)) Q pos s m
  | [], t, es, n, pos, s, m, Q, hs, hb, hz, ha, h => by
    simp only [entsS, List.map_nil, List.forIn_nil]
    refine Wp.pure ?_
    replace h := h m (by omega)
    simp only [entsS, List.append_nil, List.length_nil, Nat.add_zero] at h
    rw [← hs] at h
    exact h
  | (k, x) :: q, t, es, n, pos, s, m, Q, hs, hb, hz, ha, h => by
    simp only [entsS, List.map_cons, List.forIn_cons]
    refine .bind (.bind ?_)
    refine .dictSet_new (l := l ++ [dO es n]) (es := es) (n := n) hs (get_last _ _) hb (by simp at hz; omega) ha.1 fun j0 hj0 => ?_
    rw [set_last]
    refine Wp.pure ?_
    dsimp only
    refine wpShortLoop (kv := q) (t := t + 2) (es := es ++ [kvE k x t (t + 1)]) (n := n + 1) (s := { s with heap := hp base (l ++ [dO (es ++ [kvE k x t (t + 1)]) (n + 1)]), toks := s.toks + 1 }) rfl hb (by simp at hz ⊢; omega) ha.next fun j hj => ?_
    replace h := h j (by simp only [List.length_cons]; omega)
    simp only [entsS, List.length_cons] at h
    simp only [List.append_assoc, List.singleton_append]
    rw [show n + 1 + q.length = n + (q.length + 1) by omega, show s.toks + 1 + q.length = s.toks + (q.length + 1) by omega]
    exact h

theorem wpSubShort {base : Heap} {l : List Obj} {prs : List (Sem Value × Sem Value)} {kv : List (Int × Str)} {Q : Addr → Pos → Shared → Nat → Prop} (hP : Pairs2 prs kv) (hlen : kv.length ≤ 15) (hs : s.heap = hp base l) (hb : n₀ ≤ base.objs.size) (ha : Apart [] kv)
    (h : ∀ q j, j ≤ m + 30 * kv.length + 10 → Q (base.objs.size + l.length) q { s with heap := hp base (l ++ [dO (entsS s.toks kv) kv.length]), toks := s.toks + 3 * kv.length } j) :
    Wp p w n₀ ann c (fr :: st) (subDict prs) Q pos s m := by
  unfold subDict alloc
  refine .bind (.allocN ?_)
  refine Wp.pure ?_
  have hsz : s.heap.objs.size = base.objs.size + l.length := by rw [hs, hp_size]
  have hpu : s.heap.push { cls := .type "dict", data := .dict #[] } = hp base (l ++ [dO [] 0]) := by rw [hs, hp_push]
  rw [hsz, hpu]
  refine .bind (.holding ?_)
  rw [if_pos (by rw [hP.length]; exact hlen)]
  refine .bind (wpEvalPairs (base := base) (s := { s with heap := hp base (l ++ [dO [] 0]) }) hP fun q j0 hj0 => ?_)
  refine .holding ?_
  refine .bind (wpShortLoop (t := s.toks) (s := { s with heap := hp base (l ++ [dO [] 0]), toks := s.toks + 2 * kv.length }) rfl hb (by simp; omega) ha fun j hj => ?_)
  refine Wp.pure ?_
  refine Wp.pure ?_
  have := h q j (by omega)
  simp only [List.nil_append, Nat.zero_add]
  rw [show s.toks + 2 * kv.length + kv.length = s.toks + 3 * kv.length by omega]
  exact this
end
end Mine

namespace Mine
theorem dict_sub : isSubtype (.type "dict") (.type "dict") = (pure true : Sem Bool) := by kernel_rfl
theorem dict_iter : typeLookup (.type "dict") "__iter__" = (pure (some (.builtin "dict.__iter__")) : Sem (Option Value)) := by kernel_rfl
/-- an entry under an int, its hash that int's -/
def IntE (e : DictEntry) : Prop := ∃ k t, e.key = .int k t ∧ e.hash = hashInt k
theorem entsL_int : ∀ (t : Nat) (r : List (Int × Str)), ∀ e ∈ entsL t r, IntE e
  | _, [], _, h => nomatch h
  | t, (k, x) :: r, e, h => by
    rcases List.mem_cons.mp h with rfl | h
    · exact ⟨k, t, rfl, rfl⟩
    · exact entsL_int _ r e h
theorem entsS_int : ∀ (t : Nat) (r : List (Int × Str)), ∀ e ∈ entsS t r, IntE e
  | _, [], _, h => nomatch h
  | t, (k, x) :: r, e, h => by
    rcases List.mem_cons.mp h with rfl | h
    · exact ⟨k, t, rfl, rfl⟩
    · exact entsS_int _ r e h
/-- no hash twice, none of the first list's -/
def ApartE (es : List DictEntry) : List DictEntry → Prop
  | [] => True
  | e :: r => (∀ x ∈ es, x.hash ≠ e.hash) ∧ (∀ x ∈ r, x.hash ≠ e.hash) ∧ ApartE es r
theorem ApartE.push {es : List DictEntry} {e : DictEntry} : ∀ {r : List DictEntry}, ApartE es r → (∀ x ∈ r, x.hash ≠ e.hash) → ApartE (es ++ [e]) r
  | [], _, _ => trivial
  | y :: r, ⟨h1, h2, h3⟩, h => ⟨fun x hx => by
      rcases List.mem_append.mp hx with q | q
      · exact h1 x q
      · rw [List.mem_singleton.mp q]; exact (h y (.head _)).symm, h2, h3.push fun x hx => h x (.tail _ hx)⟩
section
variable {p : Program} {w : World} {n₀ : Nat} {ann : Option Value} {c : Code} {fr : Frame} {st : List Frame} {pos : Pos} {s : Shared} {m : Nat}

theorem mergeLoop {base : Heap} {subs : List Obj} {ents : List DictEntry} {m : Nat} : ∀ {rest done : List DictEntry} (_ : ents = done ++ rest) {es : List DictEntry} {n : Nat} {s : Shared} {m' : Nat} {Q : PUnit → Pos → Shared → Nat → Prop}
    (_ : s.heap = hp base (dO es n :: (subs ++ [dO ents m]))) (_ : n₀ ≤ base.objs.size) (_ : es.length + rest.length ≤ 10000) (_ : ApartE es rest) (_ : ∀ e ∈ rest, IntE e)
    (_ : ∀ j, j ≤ m' + 20 * rest.length → Q ⟨⟩ pos { s with heap := hp base (dO (es ++ rest) (n + rest.length) :: (subs ++ [dO ents m])) } j),
    Wp p w n₀ ann c st (forIn (List.range' done.length rest.length) PUnit.unit fun i _ => do
        let es ← dictEntries (base.objs.size + (1 + subs.length))
        match es[i]? with
        | some e => do
          holding [e.key, e.val] (dictPut (base.objs.size + 0) e.hash e.key e.val)
          let ep ← dictEpoch (base.objs.size + (1 + subs.length))
          if (ep != m) = true then do
            unsupported "dict.changed-during-merge"
            pure (ForInStep.yield PUnit.unit)
          else pure (ForInStep.yield PUnit.unit)
        | _ => do
          unsupported "dict.changed-during-merge"
          pure (ForInStep.yield PUnit.unit)) Q pos s m'
  | [], done, he, es, n, s, m', Q, hs, hb, hz, ha, hi, h => by
    simp only [List.length_nil, List.range'_zero, List.forIn_nil]
    refine Wp.pure ?_
    replace h := h m' (by omega)
    simp only [List.append_nil, List.length_nil, Nat.add_zero] at h
    rw [← hs] at h
    exact h
  | e :: rest, done, he, es, n, s, m', Q, hs, hb, hz, ha, hi, h => by
    simp only [List.length_cons, List.range'_succ, List.forIn_cons]
    have hl : ∀ o : Obj, (o :: (subs ++ [dO ents m]))[1 + subs.length]? = some (dO ents m) := fun o => by
      rw [Nat.add_comm]; simp
    have ho : s.heap.get? (base.objs.size + (1 + subs.length)) = some (dO ents m) := by rw [hs]; exact hp_get (hl _)
    refine .bind (.bind (.dictEntries ho ?_))
    have hx : ents.toArray[done.length]? = some e := by rw [he]; simp
    rw [hx]
    dsimp only
    obtain ⟨k, t, hk, hh⟩ := hi e (.head _)
    refine .bind (.holding ?_)
    rw [hk, hh]
    refine .dictPut_new (l := dO es n :: (subs ++ [dO ents m])) (i := 0) (es := es) (n := n) hs rfl hb (by simp at hz; omega) (by rw [← hh]; exact ha.1) fun j0 hj0 => ?_
    have heq : (⟨hashInt k, .int k t, e.val⟩ : DictEntry) = e := by rw [← hk, ← hh]
    rw [heq]
    simp only [List.set_cons_zero]
    refine .bind (.dictEpoch (es := ents) (n := m) (by show (hp base _).get? _ = _; exact hp_get (hl _)) ?_)
    rw [if_neg (by simp)]
    refine Wp.pure ?_
    dsimp only
    have := mergeLoop (rest := rest) (done := done ++ [e]) (by rw [he]; simp) (es := es ++ [e]) (n := n + 1) (s := { s with heap := hp base (dO (es ++ [e]) (n + 1) :: (subs ++ [dO ents m])) }) (Q := Q) rfl hb (by simp at hz ⊢; omega) (ha.2.2.push ha.2.1) (fun x hx => hi x (.tail _ hx)) (m' := j0 + 1) (by
      intro j hj
      replace h := h j (by simp only [List.length_cons]; omega)
      simp only [List.append_assoc, List.singleton_append]
      rw [show n + 1 + rest.length = n + (rest.length + 1) by omega]
      exact h)
    rw [List.length_append, List.length_singleton] at this
    exact this

theorem wpMerge {base : Heap} {subs : List Obj} {ents : List DictEntry} {es : List DictEntry} {n m : Nat} {m' : Nat} {Q : Unit → Pos → Shared → Nat → Prop} (hs : s.heap = hp base (dO es n :: (subs ++ [dO ents m]))) (hb : n₀ ≤ base.objs.size) (hsm : base.objs.size + (1 + subs.length) ≠ sysModules)
    (hz : es.length + ents.length ≤ 10000) (hne : es ≠ []) (ha : ApartE es ents) (hi : ∀ e ∈ ents, IntE e) (h : ∀ j, j ≤ m' + 20 * ents.length + 10 → Q () pos { s with heap := hp base (dO (es ++ ents) (n + ents.length) :: (subs ++ [dO ents m])) } j) :
    Wp p w n₀ ann c st (mergeMapping (base.objs.size + 0) (.ref (base.objs.size + (1 + subs.length))) false) Q pos s m' := by
  have hl : ∀ o : Obj, (o :: (subs ++ [dO ents m]))[1 + subs.length]? = some (dO ents m) := fun o => by
    rw [Nat.add_comm]; simp
  have ho : s.heap.get? (base.objs.size + (1 + subs.length)) = some (dO ents m) := by rw [hs]; exact hp_get (hl _)
  have hd : s.heap.get? (base.objs.size + 0) = some (dO es n) := by rw [hs]; exact hp_get rfl
  unfold mergeMapping
  refine .bind (.bind ?_)
  unfold typeOf loadPart
  refine .bind (.loadN ho ?_)
  refine Wp.pure ?_
  refine Wp.pure ?_
  show Wp p w n₀ ann c st (isSubtype (.type "dict") (.type "dict")) _ _ _ _
  rw [dict_sub]
  refine Wp.pure ?_
  rw [if_pos rfl]
  refine .bind ?_
  unfold specialOf typeOf loadPart
  refine .bind (.bind (.loadN ho ?_))
  refine Wp.pure ?_
  refine Wp.pure ?_
  show Wp p w n₀ ann c st (typeLookup (.type "dict") "__iter__") _ _ _ _
  rw [dict_iter]
  refine Wp.pure ?_
  refine .bind (Wp.pure ?_)
  rw [show (some (Value.builtin "dict.__iter__") == some (Value.builtin "dict.__iter__")) = true by decide +kernel]
  dsimp only
  rw [if_neg (by simpa using hsm)]
  refine .bind (.dictEntries hd ?_)
  rw [if_neg (by simpa using hne)]
  refine .bind (.dictEntries ho ?_)
  refine .bind (.dictEpoch ho ?_)
  rw [List.range_eq_range', List.size_toArray]
  refine .bind (mergeLoop (rest := ents) (done := []) rfl hs hb hz ha hi fun j hj => ?_)
  exact Wp.pure (h _ (by omega))
end
end Mine

namespace Mine
abbrev PR := Sem Value × Sem Value
abbrev asItem (x : PR) : Option (Sem Value) × Sem Value := (some x.1, x.2)
def outL : List (List (Int × Str)) → Nat → List DictEntry
  | [], _ => []
  | q :: r, t => entsL t q ++ outL r (t + 3 * q.length)
def subsL : List (List (Int × Str)) → Nat → List Obj
  | [], _ => []
  | q :: r, t => dO (entsL t q) q.length :: subsL r (t + 3 * q.length)
def total : List (List (Int × Str)) → Nat
  | [] => 0
  | q :: r => q.length + total r

theorem Apart.toE {es : List DictEntry} : ∀ {r : List (Int × Str)} {l : List DictEntry}, l.map (·.hash) = r.map (fun q => hashInt q.1) → Apart es r → ApartE es l
  | [], [], _, _ => trivial
  | (k, x) :: r, e :: l, hm, ⟨h1, h2, h3⟩ => by
    simp only [List.map_cons, List.cons.injEq] at hm
    refine ⟨fun y hy => by rw [hm.1]; exact h1 y hy, fun y hy => ?_, h3.toE hm.2⟩
    rw [hm.1]
    have : y.hash ∈ l.map (·.hash) := List.mem_map_of_mem hy
    rw [hm.2] at this
    obtain ⟨q, hq, e'⟩ := List.mem_map.mp this
    rw [← e']; exact h2 q hq
  | [], _ :: _, hm, _ => by simp at hm
  | _ :: _, [], hm, _ => by simp at hm
theorem entsL_hash : ∀ (t : Nat) (r : List (Int × Str)), (entsL t r).map (·.hash) = r.map fun q => hashInt q.1
  | _, [] => rfl
  | t, (k, x) :: r => by simp [entsL, entsL_hash (t + 3) r]
theorem entsS_hash : ∀ (t : Nat) (r : List (Int × Str)), (entsS t r).map (·.hash) = r.map fun q => hashInt q.1
  | _, [] => rfl
  | t, (k, x) :: r => by simp [entsS, entsS_hash (t + 2) r]

section
variable {p : Program} {w : World} {n₀ : Nat} {ann : Option Value} {c : Code} {fr : Frame} {st : List Frame} {pos : Pos} {s : Shared} {m : Nat}

theorem accLoop {F : List PR → Option Addr → Sem (Option Addr)} {B : Option (Sem Value) × Sem Value → Option Addr × List PR → Sem (ForInStep (Option Addr × List PR))}
    (hB : ∀ k v main run, B (some k, v) (main, run) = if ((run ++ [(k, v)]).length == 17) = true then (F (run ++ [(k, v)]) main >>= fun m => pure (ForInStep.yield (m, []))) else pure (ForInStep.yield (main, run ++ [(k, v)])))
    {rest : List (Option (Sem Value) × Sem Value)} {main : Option Addr} {Q : Option Addr × List PR → Pos → Shared → Nat → Prop} : ∀ (prs : List PR) (run : List PR) (_ : run.length + prs.length = 17) (_ : prs ≠ [])
    (_ : Wp p w n₀ ann c st (F (run ++ prs) main) (fun m pos' s' n => Wp p w n₀ ann c st (forIn rest (m, []) B) Q pos' s' n) pos s m),
    Wp p w n₀ ann c st (forIn (prs.map asItem ++ rest) (main, run) B) Q pos s m
  | [], _, _, hne, _ => absurd rfl hne
  | [x], run, hl, _, h => by
    simp only [List.map_cons, List.map_nil, List.cons_append, List.nil_append, List.forIn_cons]
    refine .bind ?_
    rw [hB, if_pos (by simpa using hl)]
    refine .bind ?_
    exact h.mono fun m p' s' n z => Wp.pure z
  | x :: y :: r, run, hl, _, h => by
    simp only [List.map_cons, List.cons_append, List.forIn_cons]
    refine .bind ?_
    rw [hB, if_neg (by simp at hl ⊢; omega)]
    refine Wp.pure ?_
    dsimp only
    have := accLoop hB (rest := rest) (main := main) (Q := Q) (y :: r) (run ++ [x]) (by simp at hl ⊢; omega) (by simp) (by simpa using h)
    simpa using this
theorem lastLoop {F : List PR → Option Addr → Sem (Option Addr)} {B : Option (Sem Value) × Sem Value → Option Addr × List PR → Sem (ForInStep (Option Addr × List PR))}
    (hB : ∀ k v main run, B (some k, v) (main, run) = if ((run ++ [(k, v)]).length == 17) = true then (F (run ++ [(k, v)]) main >>= fun m => pure (ForInStep.yield (m, []))) else pure (ForInStep.yield (main, run ++ [(k, v)])))
    {main : Option Addr} {Q : Option Addr × List PR → Pos → Shared → Nat → Prop} : ∀ (prs : List PR) (run : List PR) (_ : run.length + prs.length < 17)
    (_ : Q (main, run ++ prs) pos s m), Wp p w n₀ ann c st (forIn (prs.map asItem) (main, run) B) Q pos s m
  | [], run, _, h => by
    simp only [List.map_nil, List.forIn_nil]
    exact Wp.pure (by simpa using h)
  | x :: r, run, hl, h => by
    simp only [List.map_cons, List.forIn_cons]
    refine .bind ?_
    rw [hB, if_neg (by simp at hl ⊢; omega)]
    refine Wp.pure ?_
    dsimp only
    exact lastLoop hB r (run ++ [x]) (by simp at hl ⊢; omega) (by simpa using h)

/-- what a flush does: F's tree -/
structure IsFlush (F : List PR → Option Addr → Sem (Option Addr)) : Prop where
  first : ∀ run, run ≠ [] → F run none = (do let d ← subDict run; pure (some d))
  next : ∀ run d, run ≠ [] → ∃ g : Addr → Value → Sem Unit, F run (some d) = (do let sub ← holding [Value.ref d] (subDict run); (holding [Value.ref d, Value.ref sub] (mergeMapping d (Value.ref sub) false)).onRaise (g sub); pure (some d))

theorem flushFirst {F : List PR → Option Addr → Sem (Option Addr)} (hF : IsFlush F) {base : Heap} {prs : List PR} {kv : List (Int × Str)} {Q : Option Addr → Pos → Shared → Nat → Prop} (hP : Pairs2 prs kv) (hlen : kv.length = 17) (hs : s.heap = hp base []) (hb : n₀ ≤ base.objs.size) (ha : Apart [] kv)
    (h : ∀ q j, j ≤ m + 1000 → Q (some (base.objs.size + 0)) q { s with heap := hp base [dO (entsL s.toks kv) 17], toks := s.toks + 51 } j) : Wp p w n₀ ann c (fr :: st) (F prs none) Q pos s m := by
  rw [hF.first prs (by intro e; rw [e] at hP; cases hP; simp at hlen)]
  refine .bind (wpSubLong (l := []) hP (by omega) hs hb (by omega) ha fun q j hj => ?_)
  refine Wp.pure ?_
  have := h q j (by omega)
  rw [hlen]
  exact this
theorem flushNext {F : List PR → Option Addr → Sem (Option Addr)} (hF : IsFlush F) {base : Heap} {es : List DictEntry} {n : Nat} {subs : List Obj} {prs : List PR} {kv : List (Int × Str)} {Q : Option Addr → Pos → Shared → Nat → Prop} (hP : Pairs2 prs kv) (hlen : kv.length = 17) (hs : s.heap = hp base (dO es n :: subs)) (hb : n₀ ≤ base.objs.size)
    (hsm : base.objs.size + (1 + subs.length) ≠ sysModules) (hz : es.length + 17 ≤ 10000) (hne : es ≠ []) (ha : Apart es kv) (ha0 : Apart [] kv)
    (h : ∀ q j, j ≤ m + 1000 → Q (some (base.objs.size + 0)) q { s with heap := hp base (dO (es ++ entsL s.toks kv) (n + 17) :: (subs ++ [dO (entsL s.toks kv) 17])), toks := s.toks + 51 } j) : Wp p w n₀ ann c (fr :: st) (F prs (some (base.objs.size + 0))) Q pos s m := by
  obtain ⟨g, hg⟩ := hF.next prs (base.objs.size + 0) (by intro e; rw [e] at hP; cases hP; simp at hlen)
  rw [hg]
  refine .bind (.holding (wpSubLong (l := dO es n :: subs) hP (by omega) hs hb (by omega) ha0 fun q j0 hj0 => ?_))
  rw [show (dO es n :: subs).length = 1 + subs.length by simp; omega]
  refine .bind (.onRaise (.holding ?_))
  refine wpMerge (s := { s with heap := hp base (dO es n :: subs ++ [dO (entsL s.toks kv) kv.length]), toks := s.toks + 3 * kv.length }) rfl hb hsm (by rw [entsL_len]; omega) hne (ha.toE (entsL_hash _ _)) (entsL_int _ _) fun j hj => ?_
  refine Wp.pure ?_
  rw [entsL_len] at hj
  have := h q j (by omega)
  rw [entsL_len, hlen]
  exact this
theorem flushLast {F : List PR → Option Addr → Sem (Option Addr)} (hF : IsFlush F) {base : Heap} {es : List DictEntry} {n : Nat} {subs : List Obj} {prs : List PR} {kv : List (Int × Str)} {Q : Option Addr → Pos → Shared → Nat → Prop} (hP : Pairs2 prs kv) (hlen : kv.length ≤ 15) (h0 : kv ≠ []) (hs : s.heap = hp base (dO es n :: subs)) (hb : n₀ ≤ base.objs.size)
    (hsm : base.objs.size + (1 + subs.length) ≠ sysModules) (hz : es.length + kv.length ≤ 10000) (hne : es ≠ []) (ha : Apart es kv) (ha0 : Apart [] kv)
    (h : ∀ q j, j ≤ m + 1000 → Q (some (base.objs.size + 0)) q { s with heap := hp base (dO (es ++ entsS s.toks kv) (n + kv.length) :: (subs ++ [dO (entsS s.toks kv) kv.length])), toks := s.toks + 3 * kv.length } j) : Wp p w n₀ ann c (fr :: st) (F prs (some (base.objs.size + 0))) Q pos s m := by
  obtain ⟨g, hg⟩ := hF.next prs (base.objs.size + 0) (by intro e; rw [e] at hP; cases hP; exact h0 rfl)
  rw [hg]
  refine .bind (.holding (wpSubShort (l := dO es n :: subs) hP hlen hs hb ha0 fun q j0 hj0 => ?_))
  rw [show (dO es n :: subs).length = 1 + subs.length by simp; omega]
  refine .bind (.onRaise (.holding ?_))
  refine wpMerge (s := { s with heap := hp base (dO es n :: subs ++ [dO (entsS s.toks kv) kv.length]), toks := s.toks + 3 * kv.length }) rfl hb hsm (by rw [entsS_len]; omega) hne (ha.toE (entsS_hash _ _)) (entsS_int _ _) fun j hj => ?_
  refine Wp.pure ?_
  rw [entsS_len] at hj
  have := h q j (by omega)
  rw [entsS_len]
  exact this
end
end Mine

namespace Mine
theorem Apart.left {es : List DictEntry} : ∀ {a b : List (Int × Str)}, Apart es (a ++ b) → Apart es a
  | [], _, _ => trivial
  | (k, x) :: a, b, ⟨h1, h2, h3⟩ => ⟨h1, fun q hq => h2 q (List.mem_append_left _ hq), Apart.left h3⟩
theorem Apart.right {es : List DictEntry} : ∀ {a b : List (Int × Str)} (t : Nat), Apart es (a ++ b) → Apart (es ++ entsL t a) b
  | [], b, t, h => by simpa [entsL] using h
  | (k, x) :: a, b, t, h => by
    have h' : Apart (es ++ [kvE k x t (t + 1)]) (a ++ b) := Apart.next (x := x) h
    have := Apart.right (t + 3) h'
    simpa [entsL] using this
theorem Apart.bare {es : List DictEntry} : ∀ {r : List (Int × Str)}, Apart es r → Apart [] r
  | [], _ => trivial
  | (k, x) :: r, ⟨_, h2, h3⟩ => ⟨fun e he => (nomatch he), h2, h3.bare⟩
theorem Apart.drop : ∀ {es : List DictEntry} {a b : List (Int × Str)}, Apart es (a ++ b) → Apart es b
  | _, [], _, h => h
  | es, (k, x) :: a, b, ⟨_, _, h3⟩ => Apart.drop (es := es) (a := a) h3

section
variable {p : Program} {w : World} {n₀ : Nat} {ann : Option Value} {c : Code} {fr : Frame} {st : List Frame} {pos : Pos} {s : Shared} {m : Nat}

theorem midLoop {F : List PR → Option Addr → Sem (Option Addr)} (hF : IsFlush F) {B : Option (Sem Value) × Sem Value → Option Addr × List PR → Sem (ForInStep (Option Addr × List PR))}
    (hB : ∀ k v main run, B (some k, v) (main, run) = if ((run ++ [(k, v)]).length == 17) = true then (F (run ++ [(k, v)]) main >>= fun m => pure (ForInStep.yield (m, []))) else pure (ForInStep.yield (main, run ++ [(k, v)])))
    {base : Heap} (hb : n₀ ≤ base.objs.size) (hsm : sysModules < base.objs.size) {lastP : List PR} {kl : List (Int × Str)} (hl : Pairs2 lastP kl) (hll : kl.length < 17) {Q : Option Addr × List PR → Pos → Shared → Nat → Prop} :
    ∀ (L : List (List PR × List (Int × Str))) (_ : ∀ x ∈ L, Pairs2 x.1 x.2 ∧ x.2.length = 17) {es : List DictEntry} {n : Nat} {subs : List Obj} {pos : Pos} {s : Shared} {m : Nat} (_ : s.heap = hp base (dO es n :: subs))
      (_ : es.length + 17 * L.length ≤ 9000) (_ : es ≠ []) (_ : Apart es ((L.map (·.2)).flatten ++ kl))
      (_ : ∀ q j, j ≤ m + 1000 * L.length → Apart (es ++ outL (L.map (·.2)) s.toks) kl → (outL (L.map (·.2)) s.toks).length = 17 * L.length → Q (some (base.objs.size + 0), lastP) q { s with heap := hp base (dO (es ++ outL (L.map (·.2)) s.toks) (n + 17 * L.length) :: (subs ++ subsL (L.map (·.2)) s.toks)), toks := s.toks + 51 * L.length } j),
      Wp p w n₀ ann c (fr :: st) (forIn ((L.map (·.1)).flatten.map asItem ++ lastP.map asItem) (some (base.objs.size + 0), []) B) Q pos s m
  | [], _, es, n, subs, pos, s, m, hs, hz, hne, ha, h => by
    simp only [List.map_nil, List.flatten_nil, List.nil_append]
    refine lastLoop hB lastP [] (by rw [hl.length]; simpa using hll) ?_
    have := h pos m (by omega) (by simpa [outL] using ha) (by simp [outL])
    simp only [List.map_nil, outL, subsL, List.append_nil, List.length_nil, Nat.mul_zero, Nat.add_zero] at this
    rw [Nat.add_zero] at *
    rw [← hs] at this
    exact this
  | (P, kv) :: L, hL, es, n, subs, pos, s, m, hs, hz, hne, ha, h => by
    obtain ⟨hP, hlen⟩ := hL (P, kv) (.head _)
    simp only at hP hlen
    simp only [List.map_cons, List.flatten_cons, List.map_append, List.append_assoc]
    have ha1 : Apart es (kv ++ ((L.map (·.2)).flatten ++ kl)) := by simpa using ha
    refine accLoop hB P [] (by simpa [hP.length] using hlen) (by intro e; have := hP.length; rw [e] at this; simp at this hlen; omega) ?_
    rw [List.nil_append]
    refine flushNext hF hP hlen hs hb (Nat.ne_of_gt (Nat.lt_of_lt_of_le hsm (Nat.le_add_right _ _))) (by simp at hz; omega) hne ha1.left (ha1.left).bare fun q j0 hj0 => ?_
    refine midLoop hF hB hb hsm hl hll L (fun x hx => hL x (.tail _ hx)) (es := es ++ entsL s.toks kv) (n := n + 17) (subs := subs ++ [dO (entsL s.toks kv) 17]) (s := { s with heap := hp base (dO (es ++ entsL s.toks kv) (n + 17) :: (subs ++ [dO (entsL s.toks kv) 17])), toks := s.toks + 51 }) rfl
      (by simp [entsL_len] at hz ⊢; omega) (by simp [hne]) (ha1.right _) fun q' j hj hA hO => ?_
    have := h q' j (by simp only [List.length_cons]; omega) (by simpa [outL, hlen] using hA) (by simp [outL, entsL_len, hlen] at hO ⊢; omega)
    simp only [List.map_cons, outL, subsL, List.length_cons, hlen] at this
    simp only [List.append_assoc, List.singleton_append]
    rw [show n + 17 + 17 * L.length = n + 17 * (L.length + 1) by omega, show s.toks + 51 + 51 * L.length = s.toks + 51 * (L.length + 1) by omega]
    exact this

theorem wpDisplay {base : Heap} (hb : n₀ ≤ base.objs.size) (hsm : sysModules < base.objs.size) {P0 lastP : List PR} {k0 kl : List (Int × Str)} {L : List (List PR × List (Int × Str))} (h0 : Pairs2 P0 k0) (h0l : k0.length = 17)
    (hL : ∀ x ∈ L, Pairs2 x.1 x.2 ∧ x.2.length = 17) (hl : Pairs2 lastP kl) (hll : kl.length ≤ 15) (hl0 : kl ≠ []) (hz : 17 * L.length ≤ 8000) (hs : s.heap = hp base []) (ha : Apart [] (k0 ++ ((L.map (·.2)).flatten ++ kl)))
    {Q : Value → Pos → Shared → Nat → Prop}
    (h : ∀ q j, j ≤ m + 1000 * L.length + 2000 → Q (.ref (base.objs.size + 0)) q { s with
      heap := hp base (dO (entsL s.toks k0 ++ (outL (L.map (·.2)) (s.toks + 51) ++ entsS (s.toks + 51 + 51 * L.length) kl)) (17 + 17 * L.length + kl.length) :: (subsL (L.map (·.2)) (s.toks + 51) ++ [dO (entsS (s.toks + 51 + 51 * L.length) kl) kl.length])),
      toks := s.toks + 51 + 51 * L.length + 3 * kl.length } j) :
    Wp p w n₀ ann c (fr :: st) (dictDisplay (P0.map asItem ++ ((L.map (·.1)).flatten.map asItem ++ lastP.map asItem))) Q pos s m := by
  unfold dictDisplay
  extract_lets flush main run
  have hF : IsFlush flush := by
    refine ⟨fun run hr => ?_, fun run d hr => ⟨fun _ x => do let _ ← holding [Value.ref d, x] (runValue (Code.builtin "proto.let_go" {})); pure (), ?_⟩⟩
    · show (if run.isEmpty = true then _ else _) = _
      rw [if_neg (by simpa using hr)]
    · show (if run.isEmpty = true then _ else _) = _
      rw [if_neg (by simpa using hr)]
  have hne : entsL s.toks k0 ≠ [] := by
    intro e
    have := entsL_len s.toks k0
    rw [e, h0l] at this
    simp at this
  refine .bind ?_
  refine accLoop (F := flush) (fun k v main run => rfl) P0 [] (by simpa [h0.length] using h0l) (by intro e; have := h0.length; rw [e, h0l] at this; simp at this) ?_
  rw [List.nil_append]
  refine flushFirst hF h0 h0l hs hb ha.left fun q j0 hj0 => ?_
  refine midLoop hF (fun k v main run => rfl) hb hsm hl (by omega) L hL (es := entsL s.toks k0) (n := 17) (subs := []) (s := { s with heap := hp base [dO (entsL s.toks k0) 17], toks := s.toks + 51 }) rfl (by rw [entsL_len]; omega) hne
    (by have := ha.right s.toks; simpa using this) fun q1 j1 hj1 hA hO => ?_
  refine .bind ?_
  have ha2 : Apart (entsL s.toks k0 ++ outL (L.map (·.2)) (s.toks + 51)) kl := hA
  refine flushLast hF hl hll hl0 (s := { s with heap := hp base (dO (entsL s.toks k0 ++ outL (L.map (·.2)) (s.toks + 51)) (17 + 17 * L.length) :: ([] ++ subsL (L.map (·.2)) (s.toks + 51))), toks := s.toks + 51 + 51 * L.length }) rfl hb (Nat.ne_of_gt (Nat.lt_of_lt_of_le hsm (Nat.le_add_right _ _))) (by rw [List.length_append, entsL_len, hO]; omega) (by simp [hne]) ha2 ha2.bare fun q2 j2 hj2 => ?_
  refine Wp.pure ?_
  have := h q2 j2 (by omega)
  simpa using this
end
end Mine

namespace Mine
/-- the pairs of a display of written ints and texts -/
def intOf : Option Expr → Option Int
  | some (.Constant (.int i) _ _) => some i
  | _ => none
def strOf : Expr → Option Str
  | .Constant (.str x) _ _ => some x
  | _ => none
def kvOf : List (Option Expr) → List Expr → Option (List (Int × Str))
  | [], [] => some []
  | k :: ks, v :: vs => match intOf k, strOf v, kvOf ks vs with
    | some i, some x, some r => some ((i, x) :: r)
    | _, _, _ => none
  | _, _ => none
theorem intOf_some {k : Option Expr} {i : Int} (h : intOf k = some i) : ∃ a b, k = some (.Constant (.int i) a b) := by
  unfold intOf at h
  split at h
  · cases h; exact ⟨_, _, rfl⟩
  · cases h
theorem strOf_some {v : Expr} {x : Str} (h : strOf v = some x) : ∃ a b, v = .Constant (.str x) a b := by
  unfold strOf at h
  split at h
  · cases h; exact ⟨_, _, rfl⟩
  · cases h
def prsOf : List (Option Expr) → List Expr → Env → Pos → List PR
  | some e :: ks, v :: vs, env, dp => (eval e env, (do let x ← eval v env; standAt dp; pure x)) :: prsOf ks vs env dp
  | _, _, _, _ => []
theorem prs_of : ∀ {ks : List (Option Expr)} {vs : List Expr} {kv : List (Int × Str)} (env : Env) (dp : Pos), kvOf ks vs = some kv →
    (evalEachOpt ks env).zip ((evalEach vs env).map fun v => do let x ← v; standAt dp; pure x) = (prsOf ks vs env dp).map asItem ∧ Pairs2 (prsOf ks vs env dp) kv
  | [], [], kv, env, dp, h => by
    simp only [kvOf, Option.some.injEq] at h
    subst h
    exact ⟨rfl, .nil⟩
  | k :: ks, v :: vs, kv, env, dp, h => by
    unfold kvOf at h
    split at h
    · rename_i i x r h1 h2 h3
      cases h
      obtain ⟨a, b, rfl⟩ := intOf_some h1
      obtain ⟨a', b', rfl⟩ := strOf_some h2
      obtain ⟨e1, e2⟩ := prs_of (ks := ks) (vs := vs) env dp h3
      refine ⟨?_, .cons rfl ⟨dp, rfl⟩ e2⟩
      simp only [evalEachOpt, evalEach, List.map_cons, List.zip_cons_cons, prsOf]
      rw [e1]
      rfl
    · cases h
  | [], _ :: _, _, _, _, h => by simp [kvOf] at h
  | _ :: _, [], _, _, _, h => by simp [kvOf] at h

/-- the first chunks of 17 and what is left -/
def cut {α : Type} : Nat → List α → List (List α) × List α
  | 0, l => ([], l)
  | n + 1, l => (l.take 17 :: (cut n (l.drop 17)).1, (cut n (l.drop 17)).2)
theorem cut_flat {α : Type} : ∀ (n : Nat) (l : List α), (cut n l).1.flatten ++ (cut n l).2 = l
  | 0, l => rfl
  | n + 1, l => by
    simp only [cut, List.flatten_cons, List.append_assoc]
    rw [cut_flat n, List.take_append_drop]
theorem cut_len {α : Type} : ∀ (n : Nat) (l : List α), (cut n l).1.length = n
  | 0, l => rfl
  | n + 1, l => by simp [cut, cut_len n]
theorem Pairs2.take {r : List PR} {q : List (Int × Str)} (h : Pairs2 r q) : ∀ n, Pairs2 (r.take n) (q.take n) := by
  induction h with
  | nil => intro n; simpa using Pairs2.nil
  | cons a b _ ih =>
    intro n
    cases n with
    | zero => exact .nil
    | succ n => exact .cons a b (ih n)
theorem Pairs2.drop {r : List PR} {q : List (Int × Str)} (h : Pairs2 r q) : ∀ n, Pairs2 (r.drop n) (q.drop n) := by
  induction h with
  | nil => intro n; simpa using Pairs2.nil
  | cons a b h ih =>
    intro n
    cases n with
    | zero => exact .cons a b h
    | succ n => exact ih n
theorem Pairs2.cut : ∀ (n : Nat) {r : List PR} {q : List (Int × Str)}, Pairs2 r q → 17 * n ≤ q.length → (∀ x ∈ ((Mine.cut n r).1.zip (Mine.cut n q).1), Pairs2 x.1 x.2 ∧ x.2.length = 17) ∧ Pairs2 (Mine.cut n r).2 (Mine.cut n q).2 ∧ (Mine.cut n q).2.length = q.length - 17 * n
  | 0, r, q, h, _ => ⟨fun x hx => by simp [Mine.cut] at hx, h, by simp [Mine.cut]⟩
  | n + 1, r, q, h, hl => by
    obtain ⟨h1, h2, h3⟩ := Pairs2.cut n (h.drop 17) (by rw [List.length_drop]; omega)
    refine ⟨fun x hx => ?_, h2, ?_⟩
    · simp only [Mine.cut, List.zip_cons_cons, List.mem_cons] at hx
      rcases hx with rfl | hx
      · exact ⟨h.take 17, by rw [List.length_take]; omega⟩
      · exact h1 x hx
    · simp only [Mine.cut]
      rw [h3, List.length_drop]; omega
theorem zip_fst {α β : Type} : ∀ {a : List α} {b : List β}, a.length = b.length → (a.zip b).map (·.1) = a
  | [], [], _ => rfl
  | x :: a, y :: b, h => by simp at h; simp [zip_fst h]
theorem zip_snd {α β : Type} : ∀ {a : List α} {b : List β}, a.length = b.length → (a.zip b).map (·.2) = b
  | [], [], _ => rfl
  | x :: a, y :: b, h => by simp at h; simp [zip_snd h]

/-- ascending keys of small size -/
def asc : Int → List (Int × Str) → Bool
  | _, [] => true
  | lo, (k, _) :: r => decide (lo < k) && decide (k < 1152921504606846976) && asc k r
theorem hash_small {k : Int} (h0 : 0 ≤ k) (h1 : k < 1152921504606846976) : hashInt k = k := by
  have e : rawHash k = k := by
    unfold rawHash
    have h2 : (k.natAbs : Int) % ((2 ^ 61 - 1 : Nat) : Int) = k := by
      have : (k.natAbs : Int) = k := by omega
      rw [this]
      exact Int.emod_eq_of_lt h0 (by have : ((2 ^ 61 - 1 : Nat) : Int) = 2305843009213693951 := rfl; omega)
    have hn : ¬ k < 0 := by omega
    simp only [h2, if_neg hn]
    rw [if_neg (by simp; omega)]
  unfold hashInt
  rw [e, if_neg (by simp; omega)]
theorem asc_all : ∀ {lo : Int} {r : List (Int × Str)}, asc lo r = true → ∀ q ∈ r, lo < q.1 ∧ q.1 < 1152921504606846976
  | _, [], _, _, hq => nomatch hq
  | lo, (k, x) :: r, h, q, hq => by
    simp only [asc, Bool.and_eq_true, decide_eq_true_eq] at h
    rcases List.mem_cons.mp hq with rfl | hq
    · exact h.1
    · have := asc_all h.2 q hq
      exact ⟨by omega, this.2⟩
theorem apart_asc : ∀ {lo : Int} {r : List (Int × Str)}, -1 ≤ lo → asc lo r = true → Apart [] r
  | _, [], _, _ => trivial
  | lo, (k, x) :: r, h0, h => by
    have hk := asc_all h (k, x) (.head _)
    have h' : asc k r = true := by simp only [asc, Bool.and_eq_true] at h; exact h.2
    refine ⟨fun e he => (nomatch he), fun q hq => ?_, apart_asc (by omega) h'⟩
    have := asc_all h' q hq
    rw [hash_small (by omega) this.2, hash_small (k := k) (by omega) hk.2]
    omega
end Mine

namespace Mine
def dictEs (t N : Nat) (kv : List (Int × Str)) : List DictEntry :=
  entsL t (kv.take 17) ++ (outL (cut N (kv.drop 17)).1 (t + 51) ++ entsS (t + 51 + 51 * N) (cut N (kv.drop 17)).2)
def dictObjs (t N : Nat) (kv : List (Int × Str)) : List Obj :=
  dO (dictEs t N kv) (17 + 17 * N + (cut N (kv.drop 17)).2.length) :: (subsL (cut N (kv.drop 17)).1 (t + 51) ++ [dO (entsS (t + 51 + 51 * N) (cut N (kv.drop 17)).2) (cut N (kv.drop 17)).2.length])
def dictAfter (N : Nat) (kv : List (Int × Str)) (s : Shared) : Shared :=
  { s with heap := hp s.heap (dictObjs s.toks N kv), toks := s.toks + 51 + 51 * N + 3 * (cut N (kv.drop 17)).2.length }
theorem hp_nil (h : Heap) : h = hp h [] := by
  obtain ⟨o, l⟩ := h
  simp [hp]
section
variable {p : Program} {w : World} {n₀ : Nat} {ann : Option Value} {c : Code} {fr : Frame} {st : List Frame} {pos : Pos} {s : Shared} {m : Nat}

theorem Wp.standAt {q : Pos} {Q : Unit → Pos → Shared → Nat → Prop} (h : Q () q s (m + 1)) : Wp p w n₀ ann c st (standAt q) Q pos s m := by
  unfold PySem.standAt
  exact .atN (Wp.pure h)
theorem wpDict {ks : List (Option Expr)} {vs : List Expr} {kv : List (Int × Str)} {env : Env} {dp : Pos} {N r : Nat} (hkv : kvOf ks vs = some kv) (hlen : kv.length = 17 * (N + 1) + r) (hr0 : 1 ≤ r) (hr : r ≤ 15) (hN : N ≤ 400)
    (hasc : asc (-1) kv = true) (hb : n₀ ≤ s.heap.objs.size) (hsm : sysModules < s.heap.objs.size) :
    Wp p w n₀ ann c (fr :: st) (eval (.Dict ks vs dp) env) (fun v q s' n => v = .ref s.heap.objs.size ∧ s' = dictAfter N kv s ∧ n ≤ m + 1000 * N + 2001) pos s m := by
  rw [arm_eval_Dict]
  refine .bind (.standAt ?_)
  obtain ⟨e1, hP⟩ := prs_of env dp hkv
  rw [e1]
  have h17 : (kv.take 17).length = 17 := by rw [List.length_take]; omega
  have hd : (kv.drop 17).length = 17 * N + r := by rw [List.length_drop]; omega
  obtain ⟨h1, h2, h3⟩ := Pairs2.cut N (hP.drop 17) (by rw [hd]; omega)
  have hcl : (cut N ((prsOf ks vs env dp).drop 17)).1.length = (cut N (kv.drop 17)).1.length := by rw [cut_len, cut_len]
  have ep : prsOf ks vs env dp = (prsOf ks vs env dp).take 17 ++ ((((cut N ((prsOf ks vs env dp).drop 17)).1.zip (cut N (kv.drop 17)).1).map (·.1)).flatten ++ (cut N ((prsOf ks vs env dp).drop 17)).2) := by
    rw [zip_fst hcl, cut_flat, List.take_append_drop]
  have ek : kv = kv.take 17 ++ ((((cut N ((prsOf ks vs env dp).drop 17)).1.zip (cut N (kv.drop 17)).1).map (·.2)).flatten ++ (cut N (kv.drop 17)).2) := by
    rw [zip_snd hcl, cut_flat, List.take_append_drop]
  have em : (prsOf ks vs env dp).map asItem = ((prsOf ks vs env dp).take 17).map asItem ++ (((((cut N ((prsOf ks vs env dp).drop 17)).1.zip (cut N (kv.drop 17)).1).map (·.1)).flatten).map asItem ++ ((cut N ((prsOf ks vs env dp).drop 17)).2).map asItem) := by
    rw [← List.map_append, ← List.map_append, ← ep]
  rw [em]
  have hzl : ((cut N ((prsOf ks vs env dp).drop 17)).1.zip (cut N (kv.drop 17)).1).length = N := by
    rw [List.length_zip, cut_len, cut_len, Nat.min_self]
  refine wpDisplay (base := s.heap) hb hsm (hP.take 17) h17 h1 h2 (by rw [h3, hd]; omega) (by intro e; rw [e] at h3; simp at h3; omega) (by rw [hzl]; omega) (hp_nil _) (by rw [← ek]; exact apart_asc (by omega) hasc) fun q j hj => ⟨rfl, ?_, ?_⟩
  · rw [zip_snd hcl, hzl]
    rfl
  · rw [hzl] at hj; omega
end
end Mine
namespace Mine
theorem assign_wrap {ts : List Expr} {d : Expr} {ap : Pos} {env : Env} (h1 : swapsWithSole ts d ap.line env = (pure false : Sem Bool)) (h2 : swappedStores ts d env = (pure none : Sem (Option (List Str))))
    (K : Flow → Sem Fin) (H : Value → Sem Fin) (gd : Bool → Bool) (lv : List Value → List Value) :
    (exec (.Assign ts d ap) env).wrap K H gd lv = .at ap fun _ => (eval d env).wrap (fun v => (assignStores env v none ((assignEach ts env).map (·.2))).wrap K H gd lv) H gd lv := by
  rw [arm_exec_Assign, h1]
  have e : ∀ (g : Value → Sem Flow), (eval d env >>= g).wrap K H gd lv = (eval d env).wrap (fun v => (g v).wrap K H gd lv) H gd lv := fun g => by
    rw [Sem.bind_eq_wrap', Sem.wrap_wrap]; rfl
  rw [← e]
  rw [h2]
  rfl
end Mine


end
section
open PySem PySem.W PyProof.Rows PySem.Calls
namespace Mine
section
variable {prog : Program} {w : World} {A : Around} {E : Value → Shared → Prop} {s : Shared} {env : Env} {h₀ : Heap} {x : Str} {body : List Stmt} {Q : Flow → Shared → Prop}
/-- what is left of a loop over a text's signs -/
def TextRest (prog : Program) (w : World) (A : Around) (E : Value → Shared → Prop) (h₀ : Heap) (env : Env) (x : Str) (body : List Stmt) (Q : Flow → Shared → Prop) (s : Shared) (I : Addr) : List Nat → (Str → Option Value) → List (Addr × Obj) → Prop
  | [], m, news => ∀ h tk, Fr h₀ env.locals h m → News h₀ env.locals h news → Q .next { s with heap := h, toks := tk }
  | c :: r, m, news => ∀ (it : Obj) t h tk, Fr h₀ env.locals h (fun y => if y = x then some (.str ⟨#[c]⟩ t) else m y) → News h₀ env.locals h ((I, it) :: news) →
      wpAny (model prog w) A (execs body env) (UnrPost h₀ env.locals { s with heap := h, toks := tk } I it (TextRest prog w A E h₀ env x body Q s I r) Q) E { s with heap := h, toks := tk }
theorem TextRest.zero {I : Addr} {m : Str → Option Value} {news : List (Addr × Obj)} (h : ∀ h tk, Fr h₀ env.locals h m → News h₀ env.locals h news → Q .next { s with heap := h, toks := tk }) : TextRest prog w A E h₀ env x body Q s I [] m news := h
theorem TextRest.succ {I : Addr} {c : Nat} {r : List Nat} {m : Str → Option Value} {news : List (Addr × Obj)} (h : ∀ (it : Obj) t h tk, Fr h₀ env.locals h (fun y => if y = x then some (.str ⟨#[c]⟩ t) else m y) → News h₀ env.locals h ((I, it) :: news) →
      wpAny (model prog w) A (execs body env) (UnrPost h₀ env.locals { s with heap := h, toks := tk } I it (TextRest prog w A E h₀ env x body Q s I r) Q) E { s with heap := h, toks := tk }) : TextRest prog w A E h₀ env x body Q s I (c :: r) m news := h

theorem text_walks {xt : Str} {tx : Tok} {nm : String} {o : Obj} {m₀ : Str → Option Value} {news : List (Addr × Obj)}
    (W : Walks prog w A s.heap.objs.size [s.heap.objs.size] [s.heap.objs.size] xt.cps.size (SignAt xt) (fun i h => h.IsStrIter s.heap.objs.size nm xt tx i)) (hst : (s.heap.push o).IsStrIter s.heap.objs.size nm xt tx 0)
    (F : Fr h₀ env.locals s.heap m₀) (N : News h₀ env.locals s.heap news) (rest : TextRest prog w A E h₀ env x body Q s s.heap.objs.size xt.cps.toList m₀ news) :
    LoopAtV prog w A h₀ env x body Q E (.ref s.heap.objs.size) { s with heap := s.heap.push o } := by
  have hnew := next_is_new F
  let J : Nat → (Str → Option Value) → List (Addr × Obj) → Prop := fun i m₁ news₁ => TextRest prog w A E h₀ env x body Q s s.heap.objs.size (xt.cps.toList.drop i) m₁ news₁
  refine ⟨_, _, _, xt.cps.size, _, _, m₀, news, J, rfl, W, ?_, ?_, ?_, hst, F.push _, (fun p hp => ⟨Heap.get?_push_of_some _ (N p hp).1, (N p hp).2⟩), rest, ?_, ?_⟩
  · intro hm
    exact absurd F.ns.lt ((List.mem_singleton.mp hm) ▸ Nat.lt_irrefl _)
  · intro b hb
    rw [List.mem_singleton.mp hb]
    exact hnew
  · intro p hp hI
    exact absurd (Heap.lt_size (N p hp).1) ((List.mem_singleton.mp hI) ▸ Nat.lt_irrefl _)
  · rintro i v m₁ news₁ s₁ own ⟨hh', tk', rfl⟩ hin ⟨c, u, hc, rfl⟩ hJ hoff hown hget hall hst' F₁ N₁
    obtain ⟨it, hit, _⟩ := hst'
    have hmemI := hall s.heap.objs.size (List.mem_cons_self ..) hnew _ hit
    have hdrop : xt.cps.toList.drop i = c :: xt.cps.toList.drop (i + 1) := by
      have hlt' : i < xt.cps.toList.length := by simpa using hin
      rw [List.drop_eq_getElem_cons hlt']
      congr 1
      have : xt.cps.toList[i]? = some c := by simpa using hc
      exact Option.some.inj ((List.getElem?_eq_getElem hlt').symm.trans this)
    have hJ' : TextRest prog w A E h₀ env x body Q s s.heap.objs.size (c :: xt.cps.toList.drop (i + 1)) m₁ news₁ := by rw [← hdrop]; exact hJ
    have N₂ : News h₀ env.locals hh' ((s.heap.objs.size, it) :: news₁) := fun p hp => by
      rcases List.mem_cons.mp hp with rfl | hp
      · exact N₁ _ (List.mem_append_left _ hmemI)
      · exact N₁ _ (List.mem_append_right _ hp)
    refine wpAny_mono (hJ' it u hh' tk' F₁ N₂) (fun f s₂ p => ?_) fun _ _ e => e
    have fin : UnrEnd h₀ env.locals { s with heap := hh', toks := tk' } s.heap.objs.size it (TextRest prog w A E h₀ env x body Q s s.heap.objs.size (xt.cps.toList.drop (i + 1))) s₂ →
        LoopStepU h₀ env.locals [s.heap.objs.size] own (J (i + 1)) { s with heap := hh', toks := tk' } .next s₂ := by
      rintro ⟨h', tk, m', news', e, F', N', ho, r⟩
      refine ⟨rfl, h', tk, m', news', e, F', fun p hp => ?_, fun p hp hI => ho p hp (List.mem_singleton.mp hI), r⟩
      rcases List.mem_append.mp hp with hp | hp
      · have h2 : hh'.get? p.1 = some p.2 := hget p hp
        have h1 := List.mem_singleton.mp (hown p hp)
        have h3 : p = (s.heap.objs.size, it) := by
          rw [h1, hit] at h2
          exact Prod.ext h1 (Option.some.inj h2).symm
        rw [h3]; exact N' _ (List.mem_cons_self ..)
      · exact N' _ (List.mem_cons_of_mem _ hp)
    cases f with
    | ret v => exact .ret p
    | brk => exact .brk p
    | next => exact .next (fin p)
    | cont => exact .cont (fin p)
  · rintro h' tk m' news' F' N' _ hJ
    have z : xt.cps.toList.drop xt.cps.size = [] := by rw [List.drop_eq_nil_iff]; simp
    have hJ' : TextRest prog w A E h₀ env x body Q s s.heap.objs.size [] m' news' := by rw [← z]; exact hJ
    exact hJ' h' tk F' N'
theorem iter_text {xt : Str} {tx : Tok} {m₀ : Str → Option Value} {news : List (Addr × Obj)} (hh : A.handled = none) (F : Fr h₀ env.locals s.heap m₀) (N : News h₀ env.locals s.heap news)
    (rest₀ : ∀ I : Addr, (∀ p ∈ news, p.1 < I) → TextRest prog w A E h₀ env x body Q s I xt.cps.toList m₀ news) :
    wpAny (model prog w) A (pyIter (.str xt tx)) (fun it s₂ => LoopAtV prog w A h₀ env x body Q E it s₂) E s := by
  have rest := rest₀ s.heap.objs.size fun p hp => Heap.lt_size (N p hp).1
  cases ha : xt.cps.all (· < 128)
  · exact wpAny_pyIter_wide ha (text_walks (Walks.strWide hh _ xt tx) ⟨_, Heap.get?_push_size _ rfl, rfl, rfl⟩ F N rest)
  · exact wpAny_pyIter_ascii ha (text_walks (Walks.strAscii hh _ xt tx) ⟨_, Heap.get?_push_size _ rfl, rfl, rfl⟩ F N rest)
/-- a turn's end: the iterator stands, the rest goes on -/
theorem unrEnd_lt {L I : Addr} {it : Obj} {rest : (Str → Option Value) → List (Addr × Obj) → Prop} {s₁ : Shared} {h' : Heap} {tk : Nat} {m' : Str → Option Value} {all : List (Addr × Obj)} (F : Fr h₀ L h' m') (N : News h₀ L h' all) (news' : List (Addr × Obj))
    (hI : (I, it) ∈ all) (sub : ∀ p ∈ news', p ∈ all) (off : ∀ p ∈ news', p.1 < I ∨ I < p.1) (r : rest m' news') : UnrEnd h₀ L s₁ I it rest { s₁ with heap := h', toks := tk } :=
  UnrEnd.intro F N news' (fun p hp => by
    rcases List.mem_cons.mp hp with rfl | hp
    · exact hI
    · exact sub p hp) (fun p hp e => by
    rcases off p hp with h | h <;> (rw [e] at h; exact Nat.lt_irrefl _ h)) r
end
end Mine

end
section
open PySem PySem.W PyProof.Rows PySem.Calls
namespace Mine
abbrev pw : Program := PySem.Challenge.pw_dw5011_02
abbrev ann0 : Option Value := some (.ref 6)
def bodyM : List Stmt := behindTheImports pw
def envM : Env := { scope := pw.main.scope, locals := mainNs, globals := mainNs, cells := [], code := .ref 13, frame := some 14 }
abbrev codeM : Code := .body (behindTheImports pw) envM
abbrev q0 : Pos := ⟨0, 0, 0, 0⟩
noncomputable def S0 (w : World) (os : OsState) : Shared := ⟨boot_heap w.params, #[], boot_drawn, boot_toks, os⟩
noncomputable def SA0 (w : World) (os : OsState) : Shared := ((topGo treeTable pw w 11 ann0 12 (S0 w os) (topStub pw)).map (·.1)).getD (S0 w os)
theorem pre_run (w : World) (os : OsState) : topGo treeTable pw w 11 ann0 12 (S0 w os) (topStub pw) = some (SA0 w os, ⟨denote treeTable codeM, codeM, q0, [topFrame q0]⟩) := by kernel_rfl
def stm (i : Nat) : Stmt := (behindTheImports pw).getD i (.Pass q0)
def restM : List Stmt := (behindTheImports pw).drop 2
theorem body_split : behindTheImports pw = stm 0 :: stm 1 :: restM := by kernel_rfl
theorem block_run (w : World) (os : OsState) : segRun treeTable pw w 11 ann0 1 1 (SA0 w os) (blockOf (behindTheImports pw) envM codeM q0 [topFrame q0]) = some (.next, SA0 w os, codeM, q0) := by kernel_rfl
noncomputable def SA1 (w : World) (os : OsState) : Shared := ((segRun treeTable pw w 11 ann0 1 10 (SA0 w os) (pieceOf (stm 0) envM codeM q0 [topFrame q0])).map (·.2.1)).getD (S0 w os)
theorem piece0_run (w : World) (os : OsState) : segRun treeTable pw w 11 ann0 1 10 (SA0 w os) (pieceOf (stm 0) envM codeM q0 [topFrame q0]) = some (.next, SA1 w os, codeM, ⟨1, 0, 1, 8⟩) := by kernel_rfl
/-- the keys and the values of the display -/
def dKs : List (Option Expr) := match stm 1 with | .Assign _ (.Dict ks _ _) _ => ks | _ => []
def dVs : List Expr := match stm 1 with | .Assign _ (.Dict _ vs _) _ => vs | _ => []
def dDp : Pos := match stm 1 with | .Assign _ (.Dict _ _ dp) _ => dp | _ => q0
def dTs : List Expr := match stm 1 with | .Assign ts _ _ => ts | _ => []
def dAp : Pos := match stm 1 with | .Assign _ _ ap => ap | _ => q0
theorem stm1 : stm 1 = .Assign dTs (.Dict dKs dVs dDp) dAp := by kernel_rfl
def kv : List (Int × Str) := (kvOf dKs dVs).getD []
theorem kv_of : kvOf dKs dVs = some kv := by kernel_rfl
theorem kv_len : kv.length = 17 * (37 + 1) + 4 := by kernel_rfl
theorem kv_asc : asc (-1) kv = true := by kernel_rfl
theorem sa1_size (w : World) (os : OsState) : (SA1 w os).heap.objs.size = 15 := by kernel_rfl
theorem sa1_toks (w : World) (os : OsState) : (SA1 w os).toks = 189 := by kernel_rfl
noncomputable def SE (w : World) (os : OsState) : Shared := dictAfter 37 kv (SA1 w os)
theorem no_swap : swapsWithSole dTs (.Dict dKs dVs dDp) dAp.line envM = (pure false : Sem Bool) := by kernel_rfl
theorem no_swapped : swappedStores dTs (.Dict dKs dVs dDp) envM = (pure none : Sem (Option (List Str))) := by kernel_rfl
def tailF (v : Value) : Sem Flow := assignStores envM v none ((assignEach dTs envM).map (·.2))
noncomputable def SD (w : World) (os : OsState) : Shared := ((segRun treeTable pw w 11 ann0 1 10 (SE w os) ⟨(tailF (.ref 15)).wrap doneF deadEnd id id, codeM, q0, [topFrame q0]⟩).map (·.2.1)).getD (S0 w os)
theorem tail_run (w : World) (os : OsState) (q : Pos) : segRun treeTable pw w 11 ann0 1 10 (SE w os) ⟨(tailF (.ref 15)).wrap doneF deadEnd id id, codeM, q, [topFrame q0]⟩ = some (.next, SD w os, codeM, ⟨2, 0, 2, 13⟩) := by kernel_rfl
theorem dict_reach (w : World) (os : OsState) (p1 : Pos) (K : Flow → Sem Fin) (H : Value → Sem Fin) (gd : Bool → Bool) (lv : List Value → List Value) :
    ∃ q n, n ≤ 39002 ∧ Reach pw w 11 ann0 n (SA1 w os) ⟨(exec (stm 1) envM).wrap K H gd lv, codeM, p1, [topFrame q0]⟩ (SE w os) ⟨(tailF (.ref 15)).wrap K H gd lv, codeM, q, [topFrame q0]⟩ := by
  obtain ⟨v, q, s', n, ⟨rfl, rfl, hn⟩, hr⟩ := wpDict (p := pw) (w := w) (n₀ := 11) (ann := ann0) (c := codeM) (fr := topFrame q0) (st := []) (pos := dAp) (s := SA1 w os) (m := 0) (env := envM) (dp := dDp) (N := 37) (r := 4) kv_of kv_len (by omega) (by omega) (by omega) kv_asc
    (by rw [sa1_size]; omega) (by rw [sa1_size]; decide)
  refine ⟨q, 1 + n, by omega, ?_⟩
  rw [stm1, assign_wrap no_swap no_swapped]
  refine .trans (.one (s1 := SA1 w os) (t1 := ⟨(eval (.Dict dKs dVs dDp) envM).wrap (fun v => (tailF v).wrap K H gd lv) H gd lv, codeM, dAp, [topFrame q0]⟩) rfl rfl rfl) ?_
  have := hr (fun v => (tailF v).wrap K H gd lv) H gd lv
  rw [sa1_size] at this
  exact this
theorem dict_run (w : World) (os : OsState) : ∃ n, n ≤ 39012 ∧ segRun treeTable pw w 11 ann0 1 n (SA1 w os) (pieceOf (stm 1) envM codeM ⟨1, 0, 1, 8⟩ [topFrame q0]) = some (.next, SD w os, codeM, ⟨2, 0, 2, 13⟩) := by
  obtain ⟨q, n, hn, hr⟩ := dict_reach w os ⟨1, 0, 1, 8⟩ doneF deadEnd id id
  exact ⟨n + 10, by omega, seg_go hr (tail_run w os q)⟩
noncomputable def SF (w : World) (os : OsState) : Shared := (topRun treeTable pw w 11 ann0 400 (SD w os) (restOf restM envM codeM ⟨2, 0, 2, 13⟩ [topFrame q0])).getD (S0 w os)
theorem rest_run (w : World) (os : OsState) : topRun treeTable pw w 11 ann0 400 (SD w os) (restOf restM envM codeM ⟨2, 0, 2, 13⟩ [topFrame q0]) = some (SF w os) := by kernel_rfl
theorem sf_size (w : World) (os : OsState) : (SF w os).heap.objs.size = 111 := by kernel_rfl
theorem run_all (w : World) (os : OsState) : topRun treeTable pw w 11 ann0 50000 (S0 w os) (topStub pw) = some (SF w os) := by
  obtain ⟨n, hn, h⟩ := dict_run w os
  have e := go_top (pre_run w os) (piece_block (block_run w os) (body_split ▸ piece_cons (piece0_run w os) (piece_cons h (rest_run w os))))
  have := topRun_mono (50000 - (12 + (1 + (10 + (n + 400))))) _ _ _ _ e
  rw [show 12 + (1 + (10 + (n + 400))) + (50000 - (12 + (1 + (10 + (n + 400))))) = 50000 by omega] at this
  exact this
end Mine

end
section
open PySem PySem.W PyProof.Rows PySem.Calls
namespace Mine
def fArgs : Stmt → Arguments
  | .FunctionDef _ a _ _ _ _ _ _ _ _ => a
  | _ => { posonlyargs := [], args := [], vararg := none, kwonlyargs := [], kw_defaults := [], kwarg := none, defaults := [] }
def fBody : Stmt → List Stmt
  | .FunctionDef _ _ b _ _ _ _ _ _ _ => b
  | _ => []
def fScope : Stmt → Scope
  | .FunctionDef _ _ _ _ _ _ sc _ _ _ => sc
  | _ => pw.main.scope
abbrev rhsOf {α : Type} {a b : α} (_ : a = b) : α := b
@[reducible] def FA2 : Arguments := @rhsOf _ (fArgs (stm 2)) _ (by conv => (lhs; whnf))
@[reducible] def FB2 : List Stmt := @rhsOf _ (fBody (stm 2)) _ (by conv => (lhs; whnf))
@[reducible] def FS2 : Scope := @rhsOf _ (fScope (stm 2)) _ (by conv => (lhs; whnf))
@[reducible] def FA7 : Arguments := @rhsOf _ (fArgs (stm 7)) _ (by conv => (lhs; whnf))
@[reducible] def FB7 : List Stmt := @rhsOf _ (fBody (stm 7)) _ (by conv => (lhs; whnf))
@[reducible] def FS7 : Scope := @rhsOf _ (fScope (stm 7)) _ (by conv => (lhs; whnf))
@[reducible] def FA8 : Arguments := @rhsOf _ (fArgs (stm 8)) _ (by conv => (lhs; whnf))
@[reducible] def FB8 : List Stmt := @rhsOf _ (fBody (stm 8)) _ (by conv => (lhs; whnf))
@[reducible] def FS8 : Scope := @rhsOf _ (fScope (stm 8)) _ (by conv => (lhs; whnf))
@[reducible] def FA9 : Arguments := @rhsOf _ (fArgs (stm 9)) _ (by conv => (lhs; whnf))
@[reducible] def FB9 : List Stmt := @rhsOf _ (fBody (stm 9)) _ (by conv => (lhs; whnf))
@[reducible] def FS9 : Scope := @rhsOf _ (fScope (stm 9)) _ (by conv => (lhs; whnf))
@[reducible] def FA10 : Arguments := @rhsOf _ (fArgs (stm 10)) _ (by conv => (lhs; whnf))
@[reducible] def FB10 : List Stmt := @rhsOf _ (fBody (stm 10)) _ (by conv => (lhs; whnf))
@[reducible] def FS10 : Scope := @rhsOf _ (fScope (stm 10)) _ (by conv => (lhs; whnf))
@[reducible] def FA11 : Arguments := @rhsOf _ (fArgs (stm 11)) _ (by conv => (lhs; whnf))
@[reducible] def FB11 : List Stmt := @rhsOf _ (fBody (stm 11)) _ (by conv => (lhs; whnf))
@[reducible] def FS11 : Scope := @rhsOf _ (fScope (stm 11)) _ (by conv => (lhs; whnf))
@[reducible] def FA12 : Arguments := @rhsOf _ (fArgs (stm 12)) _ (by conv => (lhs; whnf))
@[reducible] def FB12 : List Stmt := @rhsOf _ (fBody (stm 12)) _ (by conv => (lhs; whnf))
@[reducible] def FS12 : Scope := @rhsOf _ (fScope (stm 12)) _ (by conv => (lhs; whnf))
@[reducible] def FA13 : Arguments := @rhsOf _ (fArgs (stm 13)) _ (by conv => (lhs; whnf))
@[reducible] def FB13 : List Stmt := @rhsOf _ (fBody (stm 13)) _ (by conv => (lhs; whnf))
@[reducible] def FS13 : Scope := @rhsOf _ (fScope (stm 13)) _ (by conv => (lhs; whnf))
noncomputable def K : Params → Frag := fun P =>
  (nat_lit 2, (⟨.none, none, (.dict [].toArray 0), #[]⟩ : Obj)) ::
  (nat_lit 3, (⟨(.type "dict"), none, (.dict [⟨PyData.keyHash P (Str.ofString "__name__"), (.str (Str.ofString "__name__") 165), (.str (Str.ofString "law_dw5011_02") 2148)⟩, ⟨PyData.keyHash P (Str.ofString "__doc__"), (.str (Str.ofString "__doc__") 166), .none⟩, ⟨PyData.keyHash P (Str.ofString "__package__"), (.str (Str.ofString "__package__") 167), .none⟩, ⟨PyData.keyHash P (Str.ofString "__loader__"), (.str (Str.ofString "__loader__") 168), (.builtin "__main__.__loader__#opaque")⟩, ⟨PyData.keyHash P (Str.ofString "__spec__"), (.str (Str.ofString "__spec__") 169), .none⟩, ⟨PyData.keyHash P (Str.ofString "__annotations__"), (.str (Str.ofString "__annotations__") 170), (.ref 6)⟩, ⟨PyData.keyHash P (Str.ofString "__builtins__"), (.str (Str.ofString "__builtins__") 171), (.ref 4)⟩, ⟨PyData.keyHash P (Str.ofString "__file__"), (.str (Str.ofString "__file__") 173), (.str (Str.ofString "/claim/cut.py") 172)⟩, ⟨PyData.keyHash P (Str.ofString "__cached__"), (.str (Str.ofString "__cached__") 174), .none⟩, ⟨PyData.keyHash P (Str.ofString "b3_exceptions"), (.str (Str.ofString "b3_exceptions") 2139), (.ref 15)⟩, ⟨PyData.keyHash P (Str.ofString "map_table_b3"), (.str (Str.ofString "map_table_b3") 2147), (.ref 60)⟩, ⟨PyData.keyHash P (Str.ofString "_law_TWO"), (.str (Str.ofString "_law_TWO") 2152), (.ref 61)⟩, ⟨PyData.keyHash P (Str.ofString "_law_DOUBLE"), (.str (Str.ofString "_law_DOUBLE") 2167), (.ref 62)⟩, ⟨PyData.keyHash P (Str.ofString "_law_HOLES"), (.str (Str.ofString "_law_HOLES") 2188), (.ref 63)⟩, ⟨PyData.keyHash P (Str.ofString "_law_whole"), (.str (Str.ofString "_law_whole") 2196), (.ref 70)⟩, ⟨PyData.keyHash P (Str.ofString "_law_quarter"), (.str (Str.ofString "_law_quarter") 2204), (.ref 77)⟩, ⟨PyData.keyHash P (Str.ofString "_law_great"), (.str (Str.ofString "_law_great") 2212), (.ref 84)⟩, ⟨PyData.keyHash P (Str.ofString "_law_any"), (.str (Str.ofString "_law_any") 2219), (.ref 91)⟩, ⟨PyData.keyHash P (Str.ofString "_law_octets"), (.str (Str.ofString "_law_octets") 2228), (.ref 98)⟩, ⟨PyData.keyHash P (Str.ofString "_law_units"), (.str (Str.ofString "_law_units") 2237), (.ref 105)⟩, ⟨PyData.keyHash P (Str.ofString "law"), (.str (Str.ofString "law") 2243), (.ref 110)⟩].toArray 21), #[]⟩ : Obj)) ::
  (nat_lit 6, (⟨(.type "dict"), none, (.dict [].toArray 0), #[]⟩ : Obj)) ::
  (nat_lit 15, (⟨(.type "dict"), none, (.dict (dictEs 189 37 kv).toArray 650), #[]⟩ : Obj)) ::
  (nat_lit 54, (⟨(.type "tuple"), none, (.seq [].toArray 0), #[]⟩ : Obj)) ::
  (nat_lit 56, (⟨(.type "tuple"), none, (.seq [(.str (Str.ofString "code") 2143), (.str (Str.ofString "r") 2144)].toArray 0), #[]⟩ : Obj)) ::
  (nat_lit 57, (⟨(.type "tuple"), none, (.seq [].toArray 0), #[]⟩ : Obj)) ::
  (nat_lit 59, (⟨(.type "code"), none, (.fields #[(.str (Str.ofString "map_table_b3") 2140), (.str (Str.ofString "map_table_b3") 2141), (.str (Str.ofString "/claim/cut.py") 2142), (.int (3) 0), (.int (1) 0), (.int (0) 0), (.int (0) 0), (.int (3) 0), (.ref 54), (.bool true), (.int (181) 0), (.ref 55), .none, (.ref 56), (.ref 57), (.ref 58), (.int (2145) 0), (.int (3) 0), (.str (Str.ofString "/claim/cut.py") 2146)]), #[]⟩ : Obj)) ::
  (nat_lit 60, (⟨(.type "function"), none, (.func (fnOf (Str.ofString "map_table_b3") (Str.ofString "map_table_b3") FA2 FB2 FS2 .none .none .none (.str (Str.ofString "cpy313.stringprep") 187) none (.ref 59) .none)), #[]⟩ : Obj)) ::
  (nat_lit 61, (⟨(.type "tuple"), none, (.seq [(.int (912) 2150), (.int (944) 2151)].toArray 0), #[]⟩ : Obj)) ::
  (nat_lit 62, (⟨(.type "tuple"), none, (.seq [(.int (1415) 2153), (.int (8018) 2154), (.int (8020) 2155), (.int (8022) 2156), (.int (8119) 2157), (.int (8135) 2158), (.int (8146) 2159), (.int (8147) 2160), (.int (8151) 2161), (.int (8162) 2162), (.int (8163) 2163), (.int (8167) 2164), (.int (8183) 2165), (.int (13254) 2166)].toArray 0), #[]⟩ : Obj)) ::
  (nat_lit 63, (⟨(.type "tuple"), none, (.seq [(.int (119965) 2168), (.int (119968) 2169), (.int (119969) 2170), (.int (119971) 2171), (.int (119972) 2172), (.int (119975) 2173), (.int (119976) 2174), (.int (119981) 2175), (.int (120070) 2176), (.int (120075) 2177), (.int (120076) 2178), (.int (120085) 2179), (.int (120093) 2180), (.int (120122) 2181), (.int (120127) 2182), (.int (120133) 2183), (.int (120135) 2184), (.int (120136) 2185), (.int (120137) 2186), (.int (120145) 2187)].toArray 0), #[]⟩ : Obj)) ::
  (nat_lit 64, (⟨(.type "tuple"), none, (.seq [].toArray 0), #[]⟩ : Obj)) ::
  (nat_lit 66, (⟨(.type "tuple"), none, (.seq [(.str (Str.ofString "x") 2192), (.str (Str.ofString "k") 2193)].toArray 0), #[]⟩ : Obj)) ::
  (nat_lit 67, (⟨(.type "tuple"), none, (.seq [].toArray 0), #[]⟩ : Obj)) ::
  (nat_lit 69, (⟨(.type "code"), none, (.fields #[(.str (Str.ofString "_law_whole") 2189), (.str (Str.ofString "_law_whole") 2190), (.str (Str.ofString "/claim/cut.py") 2191), (.int (12) 0), (.int (1) 0), (.int (0) 0), (.int (0) 0), (.int (3) 0), (.ref 64), (.bool true), (.int (181) 0), (.ref 65), .none, (.ref 66), (.ref 67), (.ref 68), (.int (2194) 0), (.int (12) 0), (.str (Str.ofString "/claim/cut.py") 2195)]), #[]⟩ : Obj)) ::
  (nat_lit 70, (⟨(.type "function"), none, (.func (fnOf (Str.ofString "_law_whole") (Str.ofString "_law_whole") FA7 FB7 FS7 .none .none .none (.str (Str.ofString "law_dw5011_02") 2148) none (.ref 69) .none)), #[]⟩ : Obj)) ::
  (nat_lit 71, (⟨(.type "tuple"), none, (.seq [].toArray 0), #[]⟩ : Obj)) ::
  (nat_lit 73, (⟨(.type "tuple"), none, (.seq [(.str (Str.ofString "code") 2200), (.str (Str.ofString "k") 2201)].toArray 0), #[]⟩ : Obj)) ::
  (nat_lit 74, (⟨(.type "tuple"), none, (.seq [].toArray 0), #[]⟩ : Obj)) ::
  (nat_lit 76, (⟨(.type "code"), none, (.fields #[(.str (Str.ofString "_law_quarter") 2197), (.str (Str.ofString "_law_quarter") 2198), (.str (Str.ofString "/claim/cut.py") 2199), (.int (15) 0), (.int (1) 0), (.int (0) 0), (.int (0) 0), (.int (3) 0), (.ref 71), (.bool true), (.int (181) 0), (.ref 72), .none, (.ref 73), (.ref 74), (.ref 75), (.int (2202) 0), (.int (15) 0), (.str (Str.ofString "/claim/cut.py") 2203)]), #[]⟩ : Obj)) ::
  (nat_lit 77, (⟨(.type "function"), none, (.func (fnOf (Str.ofString "_law_quarter") (Str.ofString "_law_quarter") FA8 FB8 FS8 .none .none .none (.str (Str.ofString "law_dw5011_02") 2148) none (.ref 76) .none)), #[]⟩ : Obj)) ::
  (nat_lit 78, (⟨(.type "tuple"), none, (.seq [].toArray 0), #[]⟩ : Obj)) ::
  (nat_lit 80, (⟨(.type "tuple"), none, (.seq [(.str (Str.ofString "x") 2208), (.str (Str.ofString "code") 2209)].toArray 0), #[]⟩ : Obj)) ::
  (nat_lit 81, (⟨(.type "tuple"), none, (.seq [].toArray 0), #[]⟩ : Obj)) ::
  (nat_lit 83, (⟨(.type "code"), none, (.fields #[(.str (Str.ofString "_law_great") 2205), (.str (Str.ofString "_law_great") 2206), (.str (Str.ofString "/claim/cut.py") 2207), (.int (18) 0), (.int (1) 0), (.int (0) 0), (.int (0) 0), (.int (3) 0), (.ref 78), (.bool true), (.int (181) 0), (.ref 79), .none, (.ref 80), (.ref 81), (.ref 82), (.int (2210) 0), (.int (18) 0), (.str (Str.ofString "/claim/cut.py") 2211)]), #[]⟩ : Obj)) ::
  (nat_lit 84, (⟨(.type "function"), none, (.func (fnOf (Str.ofString "_law_great") (Str.ofString "_law_great") FA9 FB9 FS9 .none .none .none (.str (Str.ofString "law_dw5011_02") 2148) none (.ref 83) .none)), #[]⟩ : Obj)) ::
  (nat_lit 85, (⟨(.type "tuple"), none, (.seq [].toArray 0), #[]⟩ : Obj)) ::
  (nat_lit 87, (⟨(.type "tuple"), none, (.seq [(.str (Str.ofString "x") 2216)].toArray 0), #[]⟩ : Obj)) ::
  (nat_lit 88, (⟨(.type "tuple"), none, (.seq [].toArray 0), #[]⟩ : Obj)) ::
  (nat_lit 90, (⟨(.type "code"), none, (.fields #[(.str (Str.ofString "_law_any") 2213), (.str (Str.ofString "_law_any") 2214), (.str (Str.ofString "/claim/cut.py") 2215), (.int (21) 0), (.int (1) 0), (.int (0) 0), (.int (0) 0), (.int (3) 0), (.ref 85), (.bool true), (.int (181) 0), (.ref 86), .none, (.ref 87), (.ref 88), (.ref 89), (.int (2217) 0), (.int (21) 0), (.str (Str.ofString "/claim/cut.py") 2218)]), #[]⟩ : Obj)) ::
  (nat_lit 91, (⟨(.type "function"), none, (.func (fnOf (Str.ofString "_law_any") (Str.ofString "_law_any") FA10 FB10 FS10 .none .none .none (.str (Str.ofString "law_dw5011_02") 2148) none (.ref 90) .none)), #[]⟩ : Obj)) ::
  (nat_lit 92, (⟨(.type "tuple"), none, (.seq [].toArray 0), #[]⟩ : Obj)) ::
  (nat_lit 94, (⟨(.type "tuple"), none, (.seq [(.str (Str.ofString "codes") 2223), (.str (Str.ofString "total") 2224), (.str (Str.ofString "code") 2225)].toArray 0), #[]⟩ : Obj)) ::
  (nat_lit 95, (⟨(.type "tuple"), none, (.seq [].toArray 0), #[]⟩ : Obj)) ::
  (nat_lit 97, (⟨(.type "code"), none, (.fields #[(.str (Str.ofString "_law_octets") 2220), (.str (Str.ofString "_law_octets") 2221), (.str (Str.ofString "/claim/cut.py") 2222), (.int (31) 0), (.int (1) 0), (.int (0) 0), (.int (0) 0), (.int (3) 0), (.ref 92), (.bool true), (.int (181) 0), (.ref 93), .none, (.ref 94), (.ref 95), (.ref 96), (.int (2226) 0), (.int (31) 0), (.str (Str.ofString "/claim/cut.py") 2227)]), #[]⟩ : Obj)) ::
  (nat_lit 98, (⟨(.type "function"), none, (.func (fnOf (Str.ofString "_law_octets") (Str.ofString "_law_octets") FA11 FB11 FS11 .none .none .none (.str (Str.ofString "law_dw5011_02") 2148) none (.ref 97) .none)), #[]⟩ : Obj)) ::
  (nat_lit 99, (⟨(.type "tuple"), none, (.seq [].toArray 0), #[]⟩ : Obj)) ::
  (nat_lit 101, (⟨(.type "tuple"), none, (.seq [(.str (Str.ofString "codes") 2232), (.str (Str.ofString "total") 2233), (.str (Str.ofString "code") 2234)].toArray 0), #[]⟩ : Obj)) ::
  (nat_lit 102, (⟨(.type "tuple"), none, (.seq [].toArray 0), #[]⟩ : Obj)) ::
  (nat_lit 104, (⟨(.type "code"), none, (.fields #[(.str (Str.ofString "_law_units") 2229), (.str (Str.ofString "_law_units") 2230), (.str (Str.ofString "/claim/cut.py") 2231), (.int (36) 0), (.int (1) 0), (.int (0) 0), (.int (0) 0), (.int (3) 0), (.ref 99), (.bool true), (.int (181) 0), (.ref 100), .none, (.ref 101), (.ref 102), (.ref 103), (.int (2235) 0), (.int (36) 0), (.str (Str.ofString "/claim/cut.py") 2236)]), #[]⟩ : Obj)) ::
  (nat_lit 105, (⟨(.type "function"), none, (.func (fnOf (Str.ofString "_law_units") (Str.ofString "_law_units") FA12 FB12 FS12 .none .none .none (.str (Str.ofString "law_dw5011_02") 2148) none (.ref 104) .none)), #[]⟩ : Obj)) ::
  (nat_lit 106, (⟨(.type "tuple"), none, (.seq [].toArray 0), #[]⟩ : Obj)) ::
  (nat_lit 109, (⟨(.type "code"), none, (.fields #[(.str (Str.ofString "law") 2238), (.str (Str.ofString "law") 2239), (.str (Str.ofString "/claim/cut.py") 2240), (.int (41) 0), (.int (1) 0), (.int (0) 0), (.int (0) 0), (.int (3) 0), (.ref 106), (.bool true), (.int (181) 0), (.ref 107), .none, .none, .none, (.ref 108), (.int (2241) 0), (.int (41) 0), (.str (Str.ofString "/claim/cut.py") 2242)]), #[]⟩ : Obj)) ::
  (nat_lit 110, (⟨(.type "function"), none, (.func (fnOf (Str.ofString "law") (Str.ofString "law") FA13 FB13 FS13 .none .none .none (.str (Str.ofString "law_dw5011_02") 2148) none (.ref 109) .none)), #[]⟩ : Obj)) ::
  []
def asK : List Addr := [2, 3, 6, 15, 54, 56, 57, 59, 60, 61, 62, 63, 64, 66, 67, 69, 70, 71, 73, 74, 76, 77, 78, 80, 81, 83, 84, 85, 87, 88, 90, 91, 92, 94, 95, 97, 98, 99, 101, 102, 104, 105, 106, 109, 110]
def vq : Program := { pw with main := { pw.main with body := [stm 1, stm 2, stm 4, stm 5, stm 6, stm 7, stm 8, stm 9, stm 10, stm 11, stm 12, stm 13] } }
abbrev looseM : List Str := [Str.ofString "b3_exceptions"]
theorem as_K (P : Params) : asK = (K P).map (·.1) := by kernel_rfl
theorem y_K (w : World) (os : OsState) : asK.map (SF w os).heap.get? = (K w.params).map fun p => some p.2 := by kernel_rfl

theorem open_1 (P : Params) : ((boot_heap P).isNs mainGlobals && (#[] : Array GenState).size == 0, (boot_heap P).objs.size, (boot_heap P).nsMap mainGlobals "__annotations__") = (true, 11, ann0) := by kernel_rfl
theorem look_1 (w : World) (os : OsState) : staticsOk (importedModules pw.main.body) (boot_heap w.params) (SF w os).heap = true := by kernel_rfl
theorem look_2 (w : World) (os : OsState) : namesBound pw (SF w os).heap = true := by kernel_rfl
theorem look_3 (w : World) (os : OsState) : gensDone (SF w os) = true := by kernel_rfl
theorem look_4 (w : World) (os : OsState) : laidKept (boot_heap w.params) (SF w os).heap = true := by kernel_rfl
abbrev rowL := PySem.Challenge.rw_dw5011_02
abbrev XtM : Shared → Bool := fun s => xlAt vq [] s && recOk (RowW.records rowL.row.toRowW) s
def DD : List (Int × PyData) := kv.map fun p => (p.1, PyData.str p.2)
theorem dd_look : KTD.numsLook (dictEs 189 37 kv) DD = true := by kernel_rfl
theorem asc_nodup : ∀ {lo : Int} {r : List (Int × Str)}, asc lo r = true → (r.map (·.1)).Nodup
  | _, [], _ => List.nodup_nil
  | lo, (k, x) :: r, h => by
    have h' : asc k r = true := by simp only [asc, Bool.and_eq_true] at h; exact h.2
    rw [List.map_cons, List.nodup_cons]
    refine ⟨fun hm => ?_, asc_nodup h'⟩
    obtain ⟨q, hq, e⟩ := List.mem_map.mp hm
    have := asc_all h' q hq
    simp only at e
    omega
theorem dd_nodup : (DD.map (·.1)).Nodup := by
  have e : DD.map (·.1) = kv.map (·.1) := by unfold DD; rw [List.map_map]; rfl
  rw [e]; exact asc_nodup kv_asc
/-- the looks at one name's table -/
def tableOne (p : Program) (h : Heap) (x : Str) : Bool :=
  (match tupIntsOf p x with | some ns => h.tupIntsOk x ns | none => true) &&
  (match tupStrsOf p x with | some ss => h.tupStrsOk x ss | none => true) &&
  (match tabIntOf p x with | some D => h.tabIntOk x D | none => true)
abbrev bX : Str := Str.ofString "b3_exceptions"
theorem names_split : valNames vq = bX :: (valNames vq).tail := by kernel_rfl
theorem tab_b3 : (tupIntsOf vq bX, tupStrsOf vq bX, tabIntOf vq bX) = (none, none, some (DD.map fun p => (PyData.int p.1, p.2))) := by kernel_rfl
theorem heap15 (w : World) (os : OsState) : ((SF w os).heap.get? 15, (SF w os).heap.nsMap mainGlobals bX, (valNames vq).tail.all (tableOne vq (SF w os).heap)) = (some ⟨.type "dict", none, .dict (dictEs 189 37 kv).toArray 650, #[]⟩, some (.ref 15), true) := by kernel_rfl
theorem tables_ok (w : World) (os : OsState) : tablesOk vq (SF w os).heap = true := by
  have h := heap15 w os
  have t := tab_b3
  simp only [Prod.mk.injEq] at h t
  obtain ⟨h1, h2, h3⟩ := h
  obtain ⟨t1, t2, t3⟩ := t
  show (valNames vq).all (tableOne vq (SF w os).heap) = true
  rw [names_split, List.all_cons, h3, Bool.and_true]
  unfold tableOne
  rw [t1, t2, t3]
  show (true && true && (SF w os).heap.tabIntOk bX (DD.map fun p => (PyData.int p.1, p.2))) = true
  rw [Bool.true_and, Bool.true_and]
  obtain ⟨hk, kvs, hp, hf, hm⟩ := KTD.nums_of_look pw w dd_look
  exact tabIntOk_complete (prog := pw) (w := w) h2 ⟨by decide, kvs, ⟨_, (dictEs 189 37 kv).toArray, 650, h1, ⟨rfl, rfl, rfl⟩, rfl, fun e he => hk e (by simpa using he), hp, by rw [hm]; exact dd_nodup⟩, hf⟩
theorem look_a (w : World) (os : OsState) : (seen ((recsOf vq).map (·.name)) (ownsOf vq) [] { SF w os with gens := #[] }, (SF w os).heap.bltView,
   ((SF w os).heap.keysOk (looseW vq looseM) ((recsOf vq).map (·.name)) ((litsOf vq).map (·.1)) ((clssOf vq (looseW vq looseM)).map (·.name)) && (SF w os).heap.accountedOkI (importedModules pw.main.body) && (SF w os).heap.isNs mainGlobals && (SF w os).heap.isNs builtinsNs),
   (XtM (SF w os), (SF w os).gens.size == 0),
   tabsOk vq (SF w os), pinSeenD vq (drecsOf vq) (SF w os), plainSeenE vq (looseW vq looseM) (SF w os), plainSeenD vq looseM (SF w os), wideSeen vq (SF w os), clsSeenW vq looseM (SF w os)) =
  (expectedOf vq, bltViewBooted, true, (true, true), true, pinGoodD (drecsOf vq), plainGoodE vq (looseW vq looseM), plainGoodD vq looseM, wideGood vq, clsGoodW vq looseM) := by kernel_rfl
theorem look_5 (w : World) (os : OsState) : openSeen vq looseM (importedModules pw.main.body) XtM true (SF w os) = openGood vq looseM := by
  have h := look_a w os
  simp only [Prod.mk.injEq] at h
  obtain ⟨a1, a2, a3, ⟨a4, a5⟩, a6, a7, a8, a9, a10, a11⟩ := h
  unfold openSeen openGood
  rw [a1, a2, a3, tables_ok, a4, a6, a7, a8, a9, a10, a11]
  rw [if_pos rfl, a5]
  rfl

theorem top_from (w : World) (os : OsState) : topFrom treeTable pw w 50000 (S0 w os) = some (SF w os) := by
  unfold topFrom
  have h1 := open_1 w.params
  simp only [Prod.mk.injEq] at h1
  obtain ⟨a1, a2, a3⟩ := h1
  rw [show ((S0 w os).heap.isNs mainGlobals && (S0 w os).gens.size == 0) = true from a1, show (S0 w os).heap.objs.size = 11 from a2, show (S0 w os).heap.nsMap mainGlobals "__annotations__" = ann0 from a3]
  dsimp only
  rw [run_all, Option.bind_some]
  rw [show (S0 w os).heap = boot_heap w.params from rfl, look_1, look_2, look_3, look_4]
  rfl
end Mine

end
section
open PySem PySem.W PyProof.Rows PySem.Calls
namespace Mine
theorem left : LeftO pw vq looseM XtM (Hook.obs (kHook K asK as_K)) (Hook.val (kHook K asK as_K)) 50000 := by
  intro w
  have ho := boot_open (p := pw) (N := 50000) (by kernel_rfl) (by rfl) (fun s => rfl) w
  obtain ⟨s, hs, hv⟩ := Option.map_eq_some_iff.mp ho
  obtain ⟨h, g, d, k, os⟩ := s
  obtain ⟨rfl, rfl, rfl, rfl⟩ : h = boot_heap w.params ∧ g = Array.mk [] ∧ d = boot_drawn ∧ k = boot_toks := by simpa using hv
  unfold openEnds
  rw [hs, Option.bind_some]
  refine (congrArg (Option.map _) (top_from w os)).trans ?_
  rw [Option.map_some, look_5]
  exact congrArg (fun x => some (openGood vq looseM, x)) (y_K w os)
end Mine

end
section
open PySem PySem.W PyProof.Rows PySem.Calls
namespace Mine
theorem k15 (P : Params) : (K P).lookup 15 = some ⟨.type "dict", none, .dict (dictEs 189 37 kv).toArray 650, #[]⟩ := by kernel_rfl
theorem keyed15 {P : Params} {h : Heap} (X : (K P).In h) : KTD.Keyed h 15 DD := by
  intro prog w
  obtain ⟨hk, kvs, hp, hf, hm⟩ := KTD.nums_of_look prog w dd_look
  exact ⟨by decide, kvs, ⟨_, (dictEs 189 37 kv).toArray, 650, X _ _ (k15 P), ⟨rfl, rfl, rfl⟩, rfl, fun e he => hk e (by simpa using he), hp, by rw [hm]; exact dd_nodup⟩, hf⟩
/-- what the function under test gives for one sign -/
def fold (c : Nat) : Str := match KTD.datumAt (c : Int) DD with
  | some (.str y) => y
  | _ => Txt.lower ⟨#[c]⟩
theorem dd_str : ∀ {D : List (Int × Str)} {k : Int} {d : PyData}, KTD.datumAt k (D.map fun p => (p.1, PyData.str p.2)) = some d → ∃ y, d = .str y
  | [], k, d, h => by simp [KTD.datumAt] at h
  | (j, y) :: D, k, d, h => by
    simp only [List.map_cons, KTD.datumAt] at h
    split at h
    · cases h; exact ⟨y, rfl⟩
    · exact dd_str h
theorem each_of {h₀ : Heap} {k : Int} {P : Value → Prop} {els : Prop} : ∀ {D : List (Int × Str)}, (∀ y t, KTD.datumAt k (D.map fun p => (p.1, PyData.str p.2)) = some (.str y) → P (.str y t)) → (KTD.datumAt k (D.map fun p => (p.1, PyData.str p.2)) = none → els) →
    KTD.Each h₀ k P els (KTD.asDat (D.map fun p => (p.1, PyData.str p.2)))
  | [], _, h2 => h2 rfl
  | (j, y) :: D, h1, h2 => by
    refine KTD.each_ite ?_
    by_cases e : k = j
    · rw [if_pos (decide_eq_true e)]
      refine KTD.opened_str fun t => h1 y t ?_
      simp only [List.map_cons, KTD.datumAt]
      rw [if_pos (decide_eq_true e)]
    · rw [if_neg (by simp [e])]
      refine each_of (D := D) (fun y' t hy => h1 y' t ?_) (fun hn => h2 ?_)
      · simp only [List.map_cons, KTD.datumAt]
        rw [if_neg (by simp [e])]; exact hy
      · simp only [List.map_cons, KTD.datumAt]
        rw [if_neg (by simp [e])]; exact hn
section
variable {w : World} {A : Around} {E : Value → Shared → Prop} {s : Shared} {h₀ : Heap} {L : Addr} {m : Str → Option Value}
theorem b3_method {pl : Sem Bool} {Q : Value × List Value → Shared → Prop} (F : Fr h₀ L s.heap m) (X : (K w.params).In h₀) (h : Q (.builtin "dict.get", [.ref 15]) s) : wpAny (model pw w) A (getMethod (.ref 15) "get" pl) Q E s :=
  KTD.getMethod_keyed (keyed15 X) F.keep h
theorem b3_get {k : Int} {tk : Tok} {Q : Value → Shared → Prop} (F : Fr h₀ L s.heap m) (X : (K w.params).In h₀) (h1 : ∀ y t, KTD.datumAt k DD = some (.str y) → Q (.str y t) { s with toks := s.toks + 1 }) (h2 : KTD.datumAt k DD = none → Q .none { s with toks := s.toks + 1 }) :
    wpAny (model pw w) A (call (.builtin "dict.get") [.ref 15, .int k tk]) Q E s :=
  KTD.get1_keyed (keyed15 X) F.keep (each_of h1 h2)
theorem ord_one {c : Nat} {t : Tok} {Q : Value → Shared → Prop} (h : Q (.int (c : Int) s.toks) { s with toks := s.toks + 1 }) : wpAny (model pw w) A (call (.builtin "ord") [.str ⟨#[c]⟩ t]) Q E s :=
  ord_of_one rfl h
theorem low_one {c : Nat} {t : Tok} {Q : Value → Shared → Prop} (h : Q (.str (Txt.lower ⟨#[c]⟩) s.toks) { s with toks := s.toks + 1 }) : wpAny (model pw w) A (call (.builtin "str.lower") [.str ⟨#[c]⟩ t]) Q E s :=
  SCL.lower (by show (1 : Nat) ≤ 5592405; omega) fun _ => h
end
theorem fold_some {c : Nat} {y : Str} (h : KTD.datumAt (c : Int) DD = some (.str y)) : fold c = y := by unfold fold; rw [h]
theorem fold_none {c : Nat} (h : KTD.datumAt (c : Int) DD = none) : fold c = Txt.lower ⟨#[c]⟩ := by unfold fold; rw [h]
end Mine
open Mine
local macro_rules | `(tactic| walk_at "getMethod ref") => `(tactic| (k_here; (with_reducible show wpAny _ _ (getMethod (Value.ref 15) _ _) _ _ _); refine' b3_method ?k1 ?k2 ?_; (case k1 => k_asm); (case k2 => k_asm); k_whole; walk_say "B3 METHOD"))
local macro_rules | `(tactic| walk_at "call builtin:dict.get") => `(tactic| (k_here; (with_reducible show wpAny _ _ (call (Value.builtin "dict.get") [Value.ref 15, Value.int _ _]) _ _ _); refine' b3_get ?k1 ?k2 ?_ ?_; (case k1 => k_asm); (case k2 => k_asm); k_whole; all_goals (intros; try dsimp only)))
local macro_rules | `(tactic| walk_at "call builtin:ord") => `(tactic| (k_here; (with_reducible show wpAny _ _ (call (Value.builtin "ord") [Value.str _ _]) _ _ _); refine' ord_one ?_; k_whole; (try dsimp only)))
local macro_rules | `(tactic| walk_at "call builtin:str.lower") => `(tactic| (k_here; (with_reducible show wpAny _ _ (call (Value.builtin "str.lower") [Value.str _ _]) _ _ _); refine' low_one ?_; k_whole; (try dsimp only)))
namespace Mine
/-- a contract of a def: what its call hands on -/
def CT (w : World) (f : Addr) (vs : List Value) (R : Heap → Addr → (Str → Option Value) → List (Addr × Obj) → Shared → (Value → Shared → Prop) → Prop) (d : Nat := 3) : Prop :=
  ∀ (loose : List Str) (mean : ExcName → Option Value) (mg mb : Str → Option Value) (dp un : Nat) (gd : Option (List Code)) (cn : Str) (cs : Scope) (a : Addr) (ccd : Value) (cl : List (Str × Addr)) (outer : List Env) (A₀ : Around) (base h₀ : Heap) (L : Addr)
    (m : Str → Option Value) (news : List (Addr × Obj)) (s : Shared) (Q E : Value → Shared → Prop),
    Below A₀ base outer h₀ → Fr h₀ L s.heap m → (K w.params).In h₀ → News h₀ L s.heap news → Top vq loose mean mg mb h₀ → cs.kind = .function → dp + d < recursionLimit → un + 40 * d < cLine →
    R h₀ L m news s Q → wpAny (model pw w) (ktrTop dp un gd cn cs L a ccd cl outer) (call (.ref f) vs) Q E s
abbrev RetL (r : List Int) : Heap → Addr → (Str → Option Value) → List (Addr × Obj) → Shared → (Value → Shared → Prop) → Prop := fun h₀ L m news s Q =>
  ∀ (a' : Addr) (vs : List Value) (h' : Heap) (tk' : Nat), Fr h₀ L h' m → News h₀ L h' ((a', listOf vs.toArray 0) :: news) → (∀ p ∈ news, p.1 < a') → IntsAre vs r → Q (.ref a') { s with heap := h', toks := tk' }
abbrev RetS (x : Str) : Heap → Addr → (Str → Option Value) → List (Addr × Obj) → Shared → (Value → Shared → Prop) → Prop := fun h₀ L m news s Q =>
  ∀ (t : Tok) (h' : Heap) (tk' : Nat), Fr h₀ L h' m → News h₀ L h' news → Q (.str x t) { s with heap := h', toks := tk' }
abbrev RetP (P : Int → Prop) : Heap → Addr → (Str → Option Value) → List (Addr × Obj) → Shared → (Value → Shared → Prop) → Prop := fun h₀ L m news s Q =>
  ∀ (c : Int) (t : Tok) (h' : Heap) (tk' : Nat), P c → Fr h₀ L h' m → News h₀ L h' news → Q (.int c t) { s with heap := h', toks := tk' }
abbrev RetB (b : Bool) : Heap → Addr → (Str → Option Value) → List (Addr × Obj) → Shared → (Value → Shared → Prop) → Prop := fun h₀ L m news s Q =>
  ∀ (h' : Heap) (tk' : Nat), Fr h₀ L h' m → News h₀ L h' news → Q (.bool b) { s with heap := h', toks := tk' }
theorem CT.use {w : World} {f : Addr} {vs : List Value} {R : Heap → Addr → (Str → Option Value) → List (Addr × Obj) → Shared → (Value → Shared → Prop) → Prop} {d : Nat} (C : CT w f vs R d)
    {loose : List Str} {mean : ExcName → Option Value} {mg mb : Str → Option Value} {dp un : Nat} {gd : Option (List Code)} {cn : Str} {cs : Scope} {a : Addr} {ccd : Value} {cl : List (Str × Addr)} {outer : List Env} {A₀ : Around} {base h₀ : Heap} {L : Addr}
    {m : Str → Option Value} {news : List (Addr × Obj)} {s : Shared} {Q E : Value → Shared → Prop}
    (B : Below A₀ base outer h₀) (F : Fr h₀ L s.heap m) (X : (K w.params).In h₀) (N : News h₀ L s.heap news) (T : Top vq loose mean mg mb h₀) (hk : cs.kind = .function) (hd : dp + d < recursionLimit) (hu : un + 40 * d < cLine)
    (hR : R h₀ L m news s Q) : wpAny (model pw w) (ktrTop dp un gd cn cs L a ccd cl outer) (call (.ref f) vs) Q E s := C _ _ _ _ _ _ _ _ _ _ _ _ _ _ _ _ _ _ _ _ _ _ B F X N T hk hd hu hR

set_option maxHeartbeats 4000000 in
theorem b3_ct (w : World) (c : Nat) (tk : Tok) : CT w 60 [.str ⟨#[c]⟩ tk] (RetS (fold c)) := by
  have hrw : PySem.Challenge.rw_dw5011_02 = PySem.Challenge.rw_dw5011_02 ∧ K = K := ⟨rfl, rfl⟩
  revert hrw
  k_fill
  intro hrw loose mean mg mb dp un gd cn cs a ccd cl outer A₀ base h₀ L m news s Q E B F X N T hk hd hu hret
  refine wpAny_call ?_
  cell_enter
  dsimp only [FB2, rhsOf]
  k_steps
  · have e := fold_some (by assumption)
    rw [← e]; exact hret _ _ _ (by assumption) (by assumption)
  · have e := fold_none (by assumption)
    rw [← e]; exact hret _ _ _ (by assumption) (by assumption)
end Mine

end
section
open PySem PySem.W PyProof.Rows PySem.Calls
namespace Mine
def Good (c : Int) : Prop := 0 ≤ c ∧ c < 1114112 ∧ (c < 55296 ∨ 57344 ≤ c)
def twoL : List Int := [912, 944]
theorem tup61 {P : Params} {h : Heap} (X : (K P).In h) : IsTup h 61 (List.toArray [(Value.int (912) 2150), (Value.int (944) 2151)]) := ⟨_, X 61 ⟨.type "tuple", none, .seq (List.toArray [(Value.int (912) 2150), (Value.int (944) 2151)]) 0, #[]⟩ (by kernel_rfl), rfl, 0, rfl⟩
section
variable {prog : Program} {w : World} {A : Around} {E : Value → Shared → Prop} {s : Shared} {h₀ : Heap} {L : Addr} {m : Str → Option Value}
theorem in61 {P : Params} {k : Int} {u : Tok} {Q : Value → Shared → Prop} (F : Fr h₀ L s.heap m) (X : (K P).In h₀) (h : Q (.bool (twoL.any (· == k))) s) : wpAny (model prog w) A (compareOp .In (.int k u) (.ref 61)) Q E s :=
  in_tuple_ints (ns := twoL) (F.tup (tup61 X)) (by unfold twoL; repeat' first | exact IntsAre.nil | apply IntsAre.cons) h
theorem notin61 {P : Params} {k : Int} {u : Tok} {Q : Value → Shared → Prop} (F : Fr h₀ L s.heap m) (X : (K P).In h₀) (h : Q (.bool (!(twoL.any (· == k)))) s) : wpAny (model prog w) A (compareOp .NotIn (.int k u) (.ref 61)) Q E s :=
  notin_tuple_ints (ns := twoL) (F.tup (tup61 X)) (by unfold twoL; repeat' first | exact IntsAre.nil | apply IntsAre.cons) h
end
def doubleL : List Int := [1415, 8018, 8020, 8022, 8119, 8135, 8146, 8147, 8151, 8162, 8163, 8167, 8183, 13254]
theorem tup62 {P : Params} {h : Heap} (X : (K P).In h) : IsTup h 62 (List.toArray [(Value.int (1415) 2153), (Value.int (8018) 2154), (Value.int (8020) 2155), (Value.int (8022) 2156), (Value.int (8119) 2157), (Value.int (8135) 2158), (Value.int (8146) 2159), (Value.int (8147) 2160), (Value.int (8151) 2161), (Value.int (8162) 2162), (Value.int (8163) 2163), (Value.int (8167) 2164), (Value.int (8183) 2165), (Value.int (13254) 2166)]) := ⟨_, X 62 ⟨.type "tuple", none, .seq (List.toArray [(Value.int (1415) 2153), (Value.int (8018) 2154), (Value.int (8020) 2155), (Value.int (8022) 2156), (Value.int (8119) 2157), (Value.int (8135) 2158), (Value.int (8146) 2159), (Value.int (8147) 2160), (Value.int (8151) 2161), (Value.int (8162) 2162), (Value.int (8163) 2163), (Value.int (8167) 2164), (Value.int (8183) 2165), (Value.int (13254) 2166)]) 0, #[]⟩ (by kernel_rfl), rfl, 0, rfl⟩
section
variable {prog : Program} {w : World} {A : Around} {E : Value → Shared → Prop} {s : Shared} {h₀ : Heap} {L : Addr} {m : Str → Option Value}
theorem in62 {P : Params} {k : Int} {u : Tok} {Q : Value → Shared → Prop} (F : Fr h₀ L s.heap m) (X : (K P).In h₀) (h : Q (.bool (doubleL.any (· == k))) s) : wpAny (model prog w) A (compareOp .In (.int k u) (.ref 62)) Q E s :=
  in_tuple_ints (ns := doubleL) (F.tup (tup62 X)) (by unfold doubleL; repeat' first | exact IntsAre.nil | apply IntsAre.cons) h
theorem notin62 {P : Params} {k : Int} {u : Tok} {Q : Value → Shared → Prop} (F : Fr h₀ L s.heap m) (X : (K P).In h₀) (h : Q (.bool (!(doubleL.any (· == k)))) s) : wpAny (model prog w) A (compareOp .NotIn (.int k u) (.ref 62)) Q E s :=
  notin_tuple_ints (ns := doubleL) (F.tup (tup62 X)) (by unfold doubleL; repeat' first | exact IntsAre.nil | apply IntsAre.cons) h
end
def holesL : List Int := [119965, 119968, 119969, 119971, 119972, 119975, 119976, 119981, 120070, 120075, 120076, 120085, 120093, 120122, 120127, 120133, 120135, 120136, 120137, 120145]
theorem tup63 {P : Params} {h : Heap} (X : (K P).In h) : IsTup h 63 (List.toArray [(Value.int (119965) 2168), (Value.int (119968) 2169), (Value.int (119969) 2170), (Value.int (119971) 2171), (Value.int (119972) 2172), (Value.int (119975) 2173), (Value.int (119976) 2174), (Value.int (119981) 2175), (Value.int (120070) 2176), (Value.int (120075) 2177), (Value.int (120076) 2178), (Value.int (120085) 2179), (Value.int (120093) 2180), (Value.int (120122) 2181), (Value.int (120127) 2182), (Value.int (120133) 2183), (Value.int (120135) 2184), (Value.int (120136) 2185), (Value.int (120137) 2186), (Value.int (120145) 2187)]) := ⟨_, X 63 ⟨.type "tuple", none, .seq (List.toArray [(Value.int (119965) 2168), (Value.int (119968) 2169), (Value.int (119969) 2170), (Value.int (119971) 2171), (Value.int (119972) 2172), (Value.int (119975) 2173), (Value.int (119976) 2174), (Value.int (119981) 2175), (Value.int (120070) 2176), (Value.int (120075) 2177), (Value.int (120076) 2178), (Value.int (120085) 2179), (Value.int (120093) 2180), (Value.int (120122) 2181), (Value.int (120127) 2182), (Value.int (120133) 2183), (Value.int (120135) 2184), (Value.int (120136) 2185), (Value.int (120137) 2186), (Value.int (120145) 2187)]) 0, #[]⟩ (by kernel_rfl), rfl, 0, rfl⟩
section
variable {prog : Program} {w : World} {A : Around} {E : Value → Shared → Prop} {s : Shared} {h₀ : Heap} {L : Addr} {m : Str → Option Value}
theorem in63 {P : Params} {k : Int} {u : Tok} {Q : Value → Shared → Prop} (F : Fr h₀ L s.heap m) (X : (K P).In h₀) (h : Q (.bool (holesL.any (· == k))) s) : wpAny (model prog w) A (compareOp .In (.int k u) (.ref 63)) Q E s :=
  in_tuple_ints (ns := holesL) (F.tup (tup63 X)) (by unfold holesL; repeat' first | exact IntsAre.nil | apply IntsAre.cons) h
theorem notin63 {P : Params} {k : Int} {u : Tok} {Q : Value → Shared → Prop} (F : Fr h₀ L s.heap m) (X : (K P).In h₀) (h : Q (.bool (!(holesL.any (· == k)))) s) : wpAny (model prog w) A (compareOp .NotIn (.int k u) (.ref 63)) Q E s :=
  notin_tuple_ints (ns := holesL) (F.tup (tup63 X)) (by unfold holesL; repeat' first | exact IntsAre.nil | apply IntsAre.cons) h
end
def quarter (code : Int) : Bool := decide (0 ≤ code - 119808) && (decide (code - 119808 < 676) && (decide ((code - 119808).fmod 52 < 26) && !(holesL.any (· == code))))
theorem gen_toks {M : Model} {A : Around} {α : Type} {t : Sem α} {Q : α → Shared → Prop} {E : Value → Shared → Prop} {h : Heap} {g : Shared} {X : Nat} (H : ∀ tk, wpAny M A t Q E { g with heap := h, toks := tk }) : wpAny M A t Q E { g with heap := h, toks := X } := H X
end Mine
open Mine
local macro_rules | `(tactic| walk_at "compareOp In int ref") => `(tactic| (k_here; first | ((with_reducible show wpAny _ _ (compareOp CmpOp.In (Value.int _ _) (Value.ref 61)) _ _ _); k_dflt (refine' Mine.in61 ?F ?X ?_); (case F => k_asm); (case X => k_asm); k_whole) | ((with_reducible show wpAny _ _ (compareOp CmpOp.In (Value.int _ _) (Value.ref 62)) _ _ _); k_dflt (refine' Mine.in62 ?F ?X ?_); (case F => k_asm); (case X => k_asm); k_whole) | ((with_reducible show wpAny _ _ (compareOp CmpOp.In (Value.int _ _) (Value.ref 63)) _ _ _); k_dflt (refine' Mine.in63 ?F ?X ?_); (case F => k_asm); (case X => k_asm); k_whole)))
local macro_rules | `(tactic| walk_at "compareOp NotIn int ref") => `(tactic| (k_here; first | ((with_reducible show wpAny _ _ (compareOp CmpOp.NotIn (Value.int _ _) (Value.ref 61)) _ _ _); k_dflt (refine' Mine.notin61 ?F ?X ?_); (case F => k_asm); (case X => k_asm); k_whole) | ((with_reducible show wpAny _ _ (compareOp CmpOp.NotIn (Value.int _ _) (Value.ref 62)) _ _ _); k_dflt (refine' Mine.notin62 ?F ?X ?_); (case F => k_asm); (case X => k_asm); k_whole) | ((with_reducible show wpAny _ _ (compareOp CmpOp.NotIn (Value.int _ _) (Value.ref 63)) _ _ _); k_dflt (refine' Mine.notin63 ?F ?X ?_); (case F => k_asm); (case X => k_asm); k_whole)))
local macro_rules | `(tactic| walk_at "execs cons") => `(tactic| (k_here; (with_reducible show wpAny _ _ _ _ _ { heap := _, gens := _, drawn := _, toks := _ + 1, os := _ }); k_dflt (refine Mine.gen_toks ?_); intro tk))
local macro_rules | `(tactic| walk_at "execs nil") => `(tactic| (k_here; (with_reducible show wpAny _ _ _ _ _ { heap := _, gens := _, drawn := _, toks := _ + 1, os := _ }); k_dflt (refine Mine.gen_toks ?_); intro tk))
namespace Mine
set_option maxHeartbeats 4000000 in
theorem whole_ct (w : World) (x : Int) (tk : Tok) : CT w 70 [.int x tk] (RetP Good) := by
  have hrw : PySem.Challenge.rw_dw5011_02 = PySem.Challenge.rw_dw5011_02 ∧ K = K := ⟨rfl, rfl⟩
  revert hrw
  k_fill
  intro hrw loose mean mg mb dp un gd cn cs a ccd cl outer A₀ base h₀ L m news s Q E B F X N T hk hd hu hret
  have m0 : 0 ≤ x.fmod 1112064 := Int.fmod_nonneg_of_pos x (by decide)
  have m1 : x.fmod 1112064 < 1112064 := Int.fmod_lt_of_pos x (by decide)
  refine wpAny_call ?_
  cell_enter
  dsimp only [FB7, rhsOf]
  k_steps
  all_goals (refine hret _ _ _ _ ?_ (by assumption) (by assumption); unfold Good; omega)
set_option maxHeartbeats 4000000 in
theorem quarter_ct (w : World) (x : Int) (tk : Tok) : CT w 77 [.int x tk] (RetB (quarter x)) := by
  have hrw : PySem.Challenge.rw_dw5011_02 = PySem.Challenge.rw_dw5011_02 ∧ K = K := ⟨rfl, rfl⟩
  revert hrw
  k_fill
  intro hrw loose mean mg mb dp un gd cn cs a ccd cl outer A₀ base h₀ L m news s Q E B F X N T hk hd hu hret
  refine wpAny_call ?_
  cell_enter
  dsimp only [FB8, rhsOf]
  k_steps
  all_goals (refine (?_ : ∀ b, quarter x = b → Q (.bool b) _) _ ?_; (intro b hb; rw [← hb]; exact hret _ _ (by assumption) (by assumption)); unfold quarter; first | (rw [decide_eq_false (show ¬ (0 ≤ x - 119808) by assumption)]; rfl) | (rw [decide_eq_true (show 0 ≤ x - 119808 by assumption), decide_eq_false (show ¬ (x - 119808 < 676) by assumption)]; rfl) | (rw [decide_eq_true (show 0 ≤ x - 119808 by assumption), decide_eq_true (show x - 119808 < 676 by assumption), decide_eq_false (show ¬ ((x - 119808).fmod 52 < 26) by assumption)]; rfl) | (rw [decide_eq_true (show 0 ≤ x - 119808 by assumption), decide_eq_true (show x - 119808 < 676 by assumption), decide_eq_true (show (x - 119808).fmod 52 < 26 by assumption)]; rfl))
set_option maxHeartbeats 4000000 in
theorem great_ct (w : World) (x : Int) (tk : Tok) : CT w 84 [.int x tk] (RetP Good) := by
  have hrw : PySem.Challenge.rw_dw5011_02 = PySem.Challenge.rw_dw5011_02 ∧ K = K := ⟨rfl, rfl⟩
  revert hrw
  k_fill
  intro hrw loose mean mg mb dp un gd cn cs a ccd cl outer A₀ base h₀ L m news s Q E B F X N T hk hd hu hret
  have m0 : 0 ≤ x.fmod 13 := Int.fmod_nonneg_of_pos x (by decide)
  have m1 : x.fmod 13 < 13 := Int.fmod_lt_of_pos x (by decide)
  have n0 : 0 ≤ (x.fdiv 13).fmod 26 := Int.fmod_nonneg_of_pos _ (by decide)
  have n1 : (x.fdiv 13).fmod 26 < 26 := Int.fmod_lt_of_pos _ (by decide)
  refine wpAny_call ?_
  cell_enter
  dsimp only [FB9, rhsOf]
  k_steps
  all_goals (refine hret _ _ _ _ ?_ (by assumption) (by assumption); unfold Good; omega)
end Mine

end
section
open PySem PySem.W PyProof.Rows PySem.Calls
open Mine
namespace Mine
def Stop (P : Prop) : Prop := P
theorem Stop.out {P : Prop} (h : Stop P) : P := h
theorem good_mod {x y k lo : Int} (hk : 0 < k) (h0 : 0 ≤ lo) (h1 : lo + k ≤ 55296 ∨ (57344 ≤ lo ∧ lo + k ≤ 1114112)) : Good (lo + x.fmod k) := by
  have := Int.fmod_nonneg_of_pos x hk
  have := Int.fmod_lt_of_pos x hk
  unfold Good; omega
section
variable {prog : Program} {w : World} {A : Around} {E : Value → Shared → Prop} {s : Shared} {h₀ : Heap} {L : Addr} {m : Str → Option Value} {news : List (Addr × Obj)}
theorem ints61 : IntsAre [(Value.int (912) 2150), (Value.int (944) 2151)] twoL := by unfold twoL; repeat' first | exact IntsAre.nil | apply IntsAre.cons
abbrev w62 : List Value := [(.int (1415) 2153), (.int (8018) 2154), (.int (8020) 2155), (.int (8022) 2156), (.int (8119) 2157), (.int (8135) 2158), (.int (8146) 2159), (.int (8147) 2160), (.int (8151) 2161), (.int (8162) 2162), (.int (8163) 2163), (.int (8167) 2164), (.int (8183) 2165), (.int (13254) 2166)]
theorem ints62 : IntsAre w62 doubleL := by unfold doubleL; repeat' first | exact IntsAre.nil | apply IntsAre.cons
theorem good61 : ∀ n ∈ twoL, Good n := show ∀ n ∈ twoL, 0 ≤ n ∧ n < 1114112 ∧ (n < 55296 ∨ 57344 ≤ n) by decide
theorem good62 : ∀ n ∈ doubleL, Good n := show ∀ n ∈ doubleL, 0 ≤ n ∧ n < 1114112 ∧ (n < 55296 ∨ 57344 ≤ n) by decide
theorem good_item {l : Addr} {vs : List Value} {ns : List Int} {k : Int} {u : Tok} {value slice : Expr} {Q : Value → Shared → Prop} (hl : IsTup s.heap l vs.toArray) (hi : IntsAre vs ns) (hg' : ∀ n ∈ ns, Good n) (h0 : 0 ≤ k) (h1 : k < ns.length) (hb : ns.length ≤ 1000) (h : ∀ c t, Good c → Q (.int c t) s)
    (hs : subscripted slice false (.ref l) (.int k u) = operate [.ref l, .int k u] (getItem (.ref l) (.int k u)) := by with_unfolding_all rfl) (hg : ∀ r, letTemporaryGo value (.ref l) r = pure () := by intro _; with_unfolding_all rfl) :
    wpAny (model prog w) A (subscriptTail value slice (.ref l) (.int k u)) Q E s :=
  item_tuple_ints hl hi h0 h1 (by omega) (fun t => h _ t (by
    rw [List.getD_eq_getElem?_getD]
    have hlt : k.toNat < ns.length := by omega
    rw [List.getElem?_eq_getElem hlt]
    exact hg' _ (List.getElem_mem hlt))) hs hg
theorem good_getD {ns : List Int} {k : Int} (hg : ∀ n ∈ ns, Good n) (h0 : 0 ≤ k) (h1 : k < ns.length) : Good (ns.getD k.toNat 0) := by
  rw [List.getD_eq_getElem?_getD]
  have hlt : k.toNat < ns.length := by omega
  rw [List.getElem?_eq_getElem hlt]
  exact hg _ (List.getElem_mem hlt)
theorem good_both {k : Int} (h0 : 0 ≤ k) (h1 : k < 16) : Good ((twoL ++ doubleL).getD k.toNat 0) := good_getD (fun n hn => (List.mem_append.mp hn).elim (good61 n) (good62 n)) h0 h1
theorem add_two {P : Params} {Q : Value → Shared → Prop} (F : Fr h₀ L s.heap m) (X : (K P).In h₀) (N : News h₀ L s.heap news)
    (h : ∀ D us h', Fr h₀ L h' m → News h₀ L h' ((D, ({ cls := .type "tuple", data := .seq (List.toArray us) } : Obj)) :: news) → (∀ p ∈ news, p.1 < D) → IntsAre us (twoL ++ doubleL) → Q (.ref D) { s with heap := h' }) :
    wpAny (model prog w) A (binaryOp .Add (.ref 61) (.ref 62)) Q E s :=
  add_tuples_right F N (F.tup (tup61 X)) (F.tup (tup62 X)) ints61 ints62 (by simp) (fun e => nomatch e) (fun h' F' N' hi => h _ _ h' F' N' (fun p hp => Heap.lt_size (N p hp).1) hi) (by decide)
end
end Mine
local macro_rules | `(tactic| walk_at "eval Call") => `(tactic| (k_here; k_dflt (refine Call_ ?_)))
local macro_rules | `(tactic| walk_at "binaryOp Add ref ref") => `(tactic| (k_here; (with_reducible show wpAny _ _ (binaryOp _ (Value.ref 61) (Value.ref 62)) _ _ _); k_dflt (refine' Mine.add_two ?F ?X ?N ?_; (case F => k_asm); (case X => k_asm); (case N => k_asm)); k_whole; intro D' us' h' F' N' l1 hI'; (try k_lt l1); (try k_sweep)))
local macro_rules | `(tactic| walk_at "execs cons") => `(tactic| (k_here; (with_reducible show wpAny _ _ _ _ _ { heap := _, gens := _, drawn := _, toks := _ + 1, os := _ }); k_dflt (refine Mine.gen_toks ?_); intro tk))
local macro_rules | `(tactic| walk_at "execs nil") => `(tactic| (k_here; (with_reducible show wpAny _ _ _ _ _ { heap := _, gens := _, drawn := _, toks := _ + 1, os := _ }); k_dflt (refine Mine.gen_toks ?_); intro tk))
local macro_rules | `(tactic| walk_at "call ref") => `(tactic| (k_here; (with_reducible show wpAny _ _ (call (Value.ref 70) [Value.int _ _]) _ _ _); k_dflt (refine' CT.use (whole_ct _ _ _) ?k1 ?k2 ?k3 ?k4 ?k5 ?kK ?kd ?ku ?kR); (case k1 => k_asm); (case k2 => k_asm); (case k3 => k_asm); (case k4 => k_asm); (case k5 => k_asm); (case kK => k_dflt (first | exact rfl | assumption)); (case kd => k_dflt ktr_room); (case ku => k_dflt ktr_units); k_whole; walk_say "WHOLE"; intro c' t' h' tk' hc' F' N'; (try k_sweep)))
namespace Mine
set_option maxHeartbeats 4000000 in
theorem any_ct (w : World) (x : Int) (tk : Tok) : CT w 91 [.int x tk] (RetP Good) 6 := by
  have hrw : PySem.Challenge.rw_dw5011_02 = PySem.Challenge.rw_dw5011_02 ∧ K = K := ⟨rfl, rfl⟩
  revert hrw
  k_fill
  intro hrw loose mean mg mb dp un gd cn cs a ccd cl outer A₀ base h₀ L m news s Q E B F X N T hk hd hu hret
  have n0 : 0 ≤ (x.fdiv 5).fmod 16 := Int.fmod_nonneg_of_pos _ (by decide)
  have n1 : (x.fdiv 5).fmod 16 < 16 := Int.fmod_lt_of_pos _ (by decide)
  have p0 : 0 ≤ (x.fdiv 5).fmod 128 := Int.fmod_nonneg_of_pos _ (by decide)
  have p1 : (x.fdiv 5).fmod 128 < 128 := Int.fmod_lt_of_pos _ (by decide)
  have q0 : 0 ≤ (x.fdiv 5).fmod 109 := Int.fmod_nonneg_of_pos _ (by decide)
  have q1 : (x.fdiv 5).fmod 109 < 109 := Int.fmod_lt_of_pos _ (by decide)
  have r0 : 0 ≤ (x.fdiv 5).fmod 1024 := Int.fmod_nonneg_of_pos _ (by decide)
  have r1 : (x.fdiv 5).fmod 1024 < 1024 := Int.fmod_lt_of_pos _ (by decide)
  refine wpAny_call ?_
  cell_enter
  dsimp only [FB10, rhsOf]
  k_steps
  all_goals (refine hret _ _ _ _ ?_ (by assumption) (by first | assumption | exact fun p hp => (show News _ _ _ (_ :: _) from by assumption) p (List.mem_cons_of_mem _ hp)); first | assumption | exact good_both (by assumption) (by assumption) | (unfold Good; omega))
end Mine

end
section
open PySem PySem.W PyProof.Rows PySem.Calls
namespace Mine
section
variable {prog : Program} {w : World} {A : Around} {E : Value → Shared → Prop} {s : Shared} {env : Env} {h₀ : Heap} {x : Str} {body : List Stmt} {Q : Flow → Shared → Prop}
theorem post_mono {L I : Addr} {it : Obj} {r r' : (Str → Option Value) → List (Addr × Obj) → Prop} {s₁ : Shared} {f : Flow} {s₂ : Shared} (h : UnrPost h₀ L s₁ I it r Q f s₂) (hr : ∀ m n, r m n → r' m n) : UnrPost h₀ L s₁ I it r' Q f s₂ := by
  cases f with
  | ret v => exact h
  | brk => exact h
  | next => exact let ⟨h', tk, m', n', e, F, N, o, q⟩ := h; ⟨h', tk, m', n', e, F, N, o, hr _ _ q⟩
  | cont => exact let ⟨h', tk, m', n', e, F, N, o, q⟩ := h; ⟨h', tk, m', n', e, F, N, o, hr _ _ q⟩
/-- a loop over a list of the ledger, with an invariant of one's own -/
theorem list_ind {Iad : Addr} {lp : Addr × Obj} (I : List Value → (Str → Option Value) → List (Addr × Obj) → Prop)
    (turn : ∀ v r m news, I (v :: r) m news → ∀ (it : Obj) h tk, it.cls = .type "list_iterator" → Fr h₀ env.locals h (fun y => if y = x then some v else m y) → News h₀ env.locals h ((Iad, it) :: news) →
      wpAny (model prog w) A (execs body env) (UnrPost h₀ env.locals { s with heap := h, toks := tk } Iad it (fun m' n' => lp ∈ n' ∧ I r m' n') Q) E { s with heap := h, toks := tk })
    (fin : ∀ m news, I [] m news → ∀ h tk, Fr h₀ env.locals h m → News h₀ env.locals h news → Q .next { s with heap := h, toks := tk }) :
    ∀ l m news, I l m news → ListRest prog w A E h₀ env x body Q s Iad lp l m news
  | [], m, news, h => ListRest.zero (fin m news h)
  | v :: r, m, news, h => ListRest.succ fun it h' tk hc F N => wpAny_mono (turn v r m news h it h' tk hc F N) (fun _ _ p => post_mono p fun m' n' q => ⟨q.1, list_ind I turn fin r m' n' q.2⟩) fun _ _ e => e
/-- a loop over a text's signs, with an invariant of one's own -/
theorem text_ind {Iad : Addr} (I : List Nat → (Str → Option Value) → List (Addr × Obj) → Prop)
    (turn : ∀ c r m news, I (c :: r) m news → ∀ (it : Obj) t h tk, Fr h₀ env.locals h (fun y => if y = x then some (.str ⟨#[c]⟩ t) else m y) → News h₀ env.locals h ((Iad, it) :: news) →
      wpAny (model prog w) A (execs body env) (UnrPost h₀ env.locals { s with heap := h, toks := tk } Iad it (I r) Q) E { s with heap := h, toks := tk })
    (fin : ∀ m news, I [] m news → ∀ h tk, Fr h₀ env.locals h m → News h₀ env.locals h news → Q .next { s with heap := h, toks := tk }) :
    ∀ l m news, I l m news → TextRest prog w A E h₀ env x body Q s Iad l m news
  | [], m, news, h => TextRest.zero (fin m news h)
  | c :: r, m, news, h => TextRest.succ fun it t h' tk F N => wpAny_mono (turn c r m news h it t h' tk F N) (fun _ _ p => post_mono p fun m' n' q => text_ind I turn fin r m' n' q) fun _ _ e => e
end
theorem canonM1 {m' : Str → Option Value} {x : Str} {vx : Value} (hx : m' x = some vx) : m' = fun n => if n = x then some vx else m' n := by
  funext n
  by_cases e1 : n = x
  · rw [if_pos e1, e1, hx]
  · rw [if_neg e1]
theorem canonM2 {m' : Str → Option Value} {x y : Str} {vx vy : Value} (hx : m' x = some vx) (hy : m' y = some vy) : m' = fun n => if n = x then some vx else if n = y then some vy else m' n := by
  funext n
  by_cases e1 : n = x
  · rw [if_pos e1, e1, hx]
  · rw [if_neg e1]; exact congrFun (canonM1 hy) n
theorem canonM3 {m' : Str → Option Value} {x y z : Str} {vx vy vz : Value} (hx : m' x = some vx) (hy : m' y = some vy) (hz : m' z = some vz) : m' = fun n => if n = x then some vx else if n = y then some vy else if n = z then some vz else m' n := by
  funext n
  by_cases e1 : n = x
  · rw [if_pos e1, e1, hx]
  · rw [if_neg e1]; exact congrFun (canonM2 hy hz) n
end Mine

end
section
open PySem PySem.W PyProof.Rows PySem.Calls
open Mine
namespace Mine
def oct (c : Int) : Int := if c < 128 then 1 else if c < 2048 then 2 else if c < 65536 then 3 else 4
def unt (c : Int) : Int := if c < 65536 then 1 else 2
def OI (o : Addr) (vs : List Value) (cap : Nat) (news : List (Addr × Obj)) (fn : Int → Int) (tot : Int) (l : List Value) (m : Str → Option Value) (news' : List (Addr × Obj)) : Prop := ∃ (u : Str → Option Value) (k : Int) (kt : Tok) (ls : List Int), m = (fun y => if y = Str.ofString "total" then some (.int k kt) else u y) ∧ news' = (o, W.listOf vs.toArray cap) :: news ∧ IntsAre l ls ∧ k + (ls.map fn).sum = tot
end Mine
local macro_rules | `(tactic| walk_at "execs cons") => `(tactic| (k_here; (with_reducible show wpAny _ _ _ _ _ { heap := _, gens := _, drawn := _, toks := _ + 1, os := _ }); k_dflt (refine Mine.gen_toks ?_); intro tk))
local macro_rules | `(tactic| walk_at "execs nil") => `(tactic| (k_here; (with_reducible show wpAny _ _ _ _ _ { heap := _, gens := _, drawn := _, toks := _ + 1, os := _ }); k_dflt (refine Mine.gen_toks ?_); intro tk))
local macro_rules | `(tactic| walk_at "exec For") => `(tactic| (k_here; (rename Fr _ _ _ _ => lF'); (with_unfolding_all refine' For_invVF lF' ?k1 ?k2 ?_; (case k1 => exact rfl); (case k2 => exact rfl); k_whole)))
local macro_rules | `(tactic| walk_at "exec For Name Name cons nil") => `(tactic| (k_here; (rename Fr _ _ _ _ => lF'); (with_unfolding_all refine' For_invVF lF' ?k1 ?k2 ?_; (case k1 => exact rfl); (case k2 => exact rfl); k_whole)))
local macro_rules | `(tactic| walk_at "pyIter ref") => `(tactic| (k_here; refine Stop.out ?_; walk_say "STOP AT ITER"))
namespace Mine
set_option maxHeartbeats 2000000 in
theorem octets_ct (w : World) (o : Addr) (vs : List Value) (ns : List Int) (cap : Nat) (hI : IntsAre vs ns) : CT w 98 [.ref o] (fun h₀ L m news s Q => (o, W.listOf vs.toArray cap) ∈ news ∧ RetP (· = (ns.map oct).sum) h₀ L m news s Q) := by
  have hrw : PySem.Challenge.rw_dw5011_02 = PySem.Challenge.rw_dw5011_02 ∧ K = K := ⟨rfl, rfl⟩
  revert hrw
  k_fill
  intro hrw loose mean mg mb dp un gd cn cs' a ccd cl outer A₀ base h₀ L m news s Q E B F X N T hk hd hu ⟨hm, hret⟩
  have N := (show News h₀ L s.heap ((o, W.listOf vs.toArray cap) :: news) from fun p hp => by
    rcases List.mem_cons.mp hp with rfl | hp
    · exact N _ hm
    · exact N _ hp)
  refine wpAny_call ?_
  cell_enter
  dsimp only [FB11, rhsOf]
  k_steps
  unfold Stop
  rename_i g1 L1 h1 FG B1 X1 T1 tk h2 F1 N1 tk1
  refine iter_listUnr (by rfl) F1 N1 (List.mem_cons_self ..) rfl rfl (fun Iad hI0 => ?_)
  refine list_ind (I := Mine.OI o vs cap news oct (ns.map oct).sum) ?turn ?fin _ _ _ ⟨_, 0, _, ns, canonM1 (by with_unfolding_all rfl), rfl, hI, Int.zero_add _⟩
  case turn =>
    rintro v r _ _ ⟨u, k, kt, ls, rfl, rfl, hIl, hk'⟩ it h7 tk7 hit F2 N2
    clear F1 N1 N
    cases hIl with
    | cons x t hIl' =>
    rw [List.map_cons, List.sum_cons] at hk'
    k_steps
    all_goals (refine unrEnd_lt (by assumption) (by assumption) ((o, W.listOf vs.toArray cap) :: news) (List.mem_cons_self ..) (fun p hp => List.mem_cons_of_mem _ hp) (fun p hp => .inl (hI0 p hp)) ⟨List.mem_cons_self .., _, _, _, _, canonM1 (by with_unfolding_all rfl), rfl, hIl', ?_⟩; (have e : oct x = (if x < 128 then 1 else if x < 2048 then 2 else if x < 65536 then 3 else 4) := rfl); (repeat' split at e); all_goals omega)
  case fin =>
    rintro _ _ ⟨u, k, kt, ls, rfl, rfl, hIl, hk'⟩ h7 tk7 F2 N2
    clear F1 N1 N
    cases hIl
    rw [List.map_nil, List.sum_nil, Int.add_zero] at hk'
    k_steps
    exact hret _ _ _ _ hk' (by assumption) (by first | assumption | exact fun p hp => (show News _ _ _ (_ :: _) from by assumption) p (List.mem_cons_of_mem _ hp))
set_option maxHeartbeats 2000000 in
theorem units_ct (w : World) (o : Addr) (vs : List Value) (ns : List Int) (cap : Nat) (hI : IntsAre vs ns) : CT w 105 [.ref o] (fun h₀ L m news s Q => (o, W.listOf vs.toArray cap) ∈ news ∧ RetP (· = (ns.map unt).sum) h₀ L m news s Q) := by
  have hrw : PySem.Challenge.rw_dw5011_02 = PySem.Challenge.rw_dw5011_02 ∧ K = K := ⟨rfl, rfl⟩
  revert hrw
  k_fill
  intro hrw loose mean mg mb dp un gd cn cs' a ccd cl outer A₀ base h₀ L m news s Q E B F X N T hk hd hu ⟨hm, hret⟩
  have N := (show News h₀ L s.heap ((o, W.listOf vs.toArray cap) :: news) from fun p hp => by
    rcases List.mem_cons.mp hp with rfl | hp
    · exact N _ hm
    · exact N _ hp)
  refine wpAny_call ?_
  cell_enter
  dsimp only [FB12, rhsOf]
  k_steps
  unfold Stop
  rename_i g1 L1 h1 FG B1 X1 T1 tk h2 F1 N1 tk1
  refine iter_listUnr (by rfl) F1 N1 (List.mem_cons_self ..) rfl rfl (fun Iad hI0 => ?_)
  refine list_ind (I := Mine.OI o vs cap news unt (ns.map unt).sum) ?turn ?fin _ _ _ ⟨_, 0, _, ns, canonM1 (by with_unfolding_all rfl), rfl, hI, Int.zero_add _⟩
  case turn =>
    rintro v r _ _ ⟨u, k, kt, ls, rfl, rfl, hIl, hk'⟩ it h7 tk7 hit F2 N2
    clear F1 N1 N
    cases hIl with
    | cons x t hIl' =>
    rw [List.map_cons, List.sum_cons] at hk'
    k_steps
    all_goals (refine unrEnd_lt (by assumption) (by assumption) ((o, W.listOf vs.toArray cap) :: news) (List.mem_cons_self ..) (fun p hp => List.mem_cons_of_mem _ hp) (fun p hp => .inl (hI0 p hp)) ⟨List.mem_cons_self .., _, _, _, _, canonM1 (by with_unfolding_all rfl), rfl, hIl', ?_⟩; (have e : unt x = (if x < 65536 then 1 else 2) := rfl); (repeat' split at e); all_goals omega)
  case fin =>
    rintro _ _ ⟨u, k, kt, ls, rfl, rfl, hIl, hk'⟩ h7 tk7 F2 N2
    clear F1 N1 N
    cases hIl
    rw [List.map_nil, List.sum_nil, Int.add_zero] at hk'
    k_steps
    exact hret _ _ _ _ hk' (by assumption) (by first | assumption | exact fun p hp => (show News _ _ _ (_ :: _) from by assumption) p (List.mem_cons_of_mem _ hp))
end Mine

end
section
open PySem PySem.W PyProof.Rows PySem.Calls
namespace Mine
def lookA (k : Nat) : List (Int × Str) → Option Str
  | [] => none
  | (j, y) :: r => bif Nat.beq k j.toNat then some y else bif Nat.ble k j.toNat then none else lookA k r
def foldA (c : Nat) : Str := match lookA c kv with
  | some y => y
  | none => Txt.lower ⟨#[c]⟩
theorem look_none {k : Int} : ∀ {D : List (Int × Str)}, (∀ q ∈ D, q.1 ≠ k) → KTD.datumAt k (D.map fun p => (p.1, PyData.str p.2)) = none
  | [], _ => rfl
  | (j, y) :: r, h => by
    simp only [List.map_cons, KTD.datumAt]
    rw [if_neg (by have := h _ (List.mem_cons_self ..); simp only at this; simpa using fun e => this e.symm)]
    exact look_none fun q hq => h q (List.mem_cons_of_mem _ hq)
theorem look_asc {k : Nat} : ∀ {lo : Int} {D : List (Int × Str)}, -1 ≤ lo → asc lo D = true → KTD.datumAt (k : Int) (D.map fun p => (p.1, PyData.str p.2)) = (lookA k D).map PyData.str
  | _, [], _, _ => rfl
  | lo, (j, y) :: r, hlo, h => by
    have h0 : lo < j := (asc_all h _ (List.mem_cons_self ..)).1
    have h' : asc j r = true := by simp only [asc, Bool.and_eq_true] at h; exact h.2
    simp only [List.map_cons, KTD.datumAt, lookA]
    by_cases e : (k : Int) = j
    · rw [if_pos (decide_eq_true e), show Nat.beq k j.toNat = true by have e' : k = j.toNat := (by omega); rw [e']; exact Nat.beq_refl _]; rfl
    · rw [if_neg (by simp [e]), show Nat.beq k j.toNat = false from by
        cases hb : Nat.beq k j.toNat
        · rfl
        · exact absurd (Nat.eq_of_beq_eq_true hb) (by omega)]
      cases hb : Nat.ble k j.toNat
      · exact look_asc (by omega) h'
      · have hle := Nat.le_of_ble_eq_true hb
        exact look_none fun q hq => by have := (asc_all h' q hq).1; omega
theorem fold_eq (c : Nat) : fold c = foldA c := by
  unfold fold foldA DD
  rw [look_asc (by omega) kv_asc]
  cases lookA c kv <;> rfl

def octs (f : List Int) : Int := (f.map oct).sum
def unts (f : List Int) : Int := (f.map unt).sum
def foldI (c : Int) : List Int := (fold c.toNat).cps.toList.map fun (d : Nat) => (d : Int)
structure CodeOk (c : Int) (f : List Int) : Prop where
  a1 : octs f ≤ 3 * oct c
  a2 : octs f = 3 * oct c ↔ twoL.any (· == c) = true
  b1 : twoL.any (· == c) = false → octs f ≤ 2 * oct c
  b2 : twoL.any (· == c) = false → (octs f = 2 * oct c ↔ doubleL.any (· == c) = true)
  c1 : oct c ≤ 4 * octs f
  c2 : oct c = 4 * octs f ↔ quarter c = true
  d1 : 1 ≤ (f.length : Int)
  d2 : (f.length : Int) ≤ 4
  d3 : (f.length : Int) = 4 ↔ (13254 == c) = true
  e1 : unts f ≤ 4 * unt c
  e2 : unts f = 4 * unt c ↔ (13254 == c) = true
def okB (c : Int) (f : List Int) : Bool :=
  decide (octs f ≤ 3 * oct c) && ((decide (octs f = 3 * oct c) == twoL.any (· == c)) && ((twoL.any (· == c) || (decide (octs f ≤ 2 * oct c) && (decide (octs f = 2 * oct c) == doubleL.any (· == c)))) && (decide (oct c ≤ 4 * octs f) && ((decide (oct c = 4 * octs f) == quarter c) &&
  (decide (1 ≤ (f.length : Int)) && (decide ((f.length : Int) ≤ 4) && ((decide ((f.length : Int) = 4) == (13254 == c)) && (decide (unts f ≤ 4 * unt c) && (decide (unts f = 4 * unt c) == (13254 == c))))))))))
theorem dec_iff {p : Prop} [Decidable p] {b : Bool} (h : (decide p == b) = true) : p ↔ b = true := by
  rw [beq_iff_eq] at h
  rw [← h, decide_eq_true_iff]
theorem okB_ok {c : Int} {f : List Int} (h : okB c f = true) : CodeOk c f := by
  unfold okB at h
  rw [Bool.and_eq_true, Bool.and_eq_true, Bool.and_eq_true, Bool.and_eq_true, Bool.and_eq_true, Bool.and_eq_true, Bool.and_eq_true, Bool.and_eq_true, Bool.and_eq_true] at h
  obtain ⟨h1, h2, h3, h4, h5, h6, h7, h8, h9, h10⟩ := h
  refine ⟨of_decide_eq_true h1, dec_iff h2, fun e => ?_, fun e => ?_, of_decide_eq_true h4, dec_iff h5, of_decide_eq_true h6, of_decide_eq_true h7, dec_iff h8, of_decide_eq_true h9, dec_iff h10⟩
  · rw [e, Bool.false_or, Bool.and_eq_true] at h3; exact of_decide_eq_true h3.1
  · rw [e, Bool.false_or, Bool.and_eq_true] at h3; exact dec_iff h3.2
theorem tab_ok : (kv.all fun p => okB p.1 (p.2.cps.toList.map fun (d : Nat) => (d : Int))) = true := by kernel_rfl
theorem lookA_mem {k : Nat} {y : Str} : ∀ {D : List (Int × Str)} {lo : Int}, -1 ≤ lo → asc lo D = true → lookA k D = some y → ((k : Int), y) ∈ D
  | [], _, _, _, h => nomatch h
  | (j, z) :: r, lo, hlo, ha, h => by
    have h0 : lo < j := (asc_all ha _ (List.mem_cons_self ..)).1
    have h' : asc j r = true := by simp only [asc, Bool.and_eq_true] at ha; exact ha.2
    unfold lookA at h
    cases hb : Nat.beq k j.toNat
    · rw [hb] at h
      cases hc : Nat.ble k j.toNat
      · rw [hc] at h
        exact List.mem_cons_of_mem _ (lookA_mem (by omega) h' h)
      · rw [hc] at h; cases h
    · rw [hb] at h
      have e : k = j.toNat := Nat.eq_of_beq_eq_true hb
      have h2 : some z = some y := h
      cases h2
      have e2 : (k : Int) = j := by omega
      rw [e2]; exact List.mem_cons_self ..
def keyed (c : Int) : Bool := (lookA c.toNat kv).isSome
theorem two_keyed : (twoL.all keyed && (doubleL.all keyed && (keyed 304 && keyed 13254))) = true := by kernel_rfl
theorem quarter_keyed : ((List.range 676).all fun i => !(quarter ((119808 + i : Nat) : Int)) || keyed ((119808 + i : Nat) : Int)) = true := by kernel_rfl
def runOk (r : Nat × Nat × Nat) : Bool := decide (oct ((r.2.2 + (r.2.1 - r.1) : Nat) : Int) < 2 * oct (r.1 : Int)) && decide (oct (r.2.1 : Int) < 4 * oct (r.2.2 : Int))
theorem runs_ok : (UnicodeData.oneLower.all runOk) = true := by kernel_rfl
end Mine

end
section
open PySem PySem.W PyProof.Rows PySem.Calls
namespace Mine
theorem oct_mono {a b : Int} (h : a ≤ b) : oct a ≤ oct b := by
  unfold oct; split <;> split <;> (try split) <;> (try split) <;> (try split) <;> (try split) <;> omega
theorem shifted_run {c d : Nat} : ∀ {l : List (Nat × Nat × Nat)}, Unicode.shifted l c = some d → ∃ r ∈ l, r.1 ≤ c ∧ c ≤ r.2.1 ∧ d = r.2.2 + (c - r.1)
  | [], h => nomatch h
  | (a, b, t) :: rest, h => by
    unfold Unicode.shifted at h
    split at h
    · cases h
    · split at h
      · cases h; exact ⟨_, List.mem_cons_self .., by omega, by assumption, rfl⟩
      · obtain ⟨r, hr, x⟩ := shifted_run h
        exact ⟨r, List.mem_cons_of_mem _ hr, x⟩
theorem lower_one {c : Nat} (hc : c ≠ 304) : (Txt.lower ⟨#[c]⟩).cps.toList = [(Unicode.shifted UnicodeData.oneLower c).getD c] := by
  have hs : UnicodeData.severalLower.lookup c = none := by
    unfold UnicodeData.severalLower UnicodeData.severalLower0
    rw [List.lookup_cons]
    rw [show (c == 0x130) = false from by simpa using hc]
    rfl
  have he : Unicode.endsWord #[c] 0 = false := by
    unfold Unicode.endsWord
    simp
  have hl : Unicode.lowerAt #[c] 0 = [(Unicode.shifted UnicodeData.oneLower c).getD c] := by
    unfold Unicode.lowerAt
    simp only [List.size_toArray, List.length_cons, List.length_nil, List.getElem?_toArray, List.getElem?_cons_zero, he, Bool.and_false, Bool.false_eq_true, if_false]
    unfold Unicode.lowerOf Unicode.image
    rw [hs]
  unfold Txt.lower placed
  simp [hl]
theorem low_facts (c : Nat) : oct (((Unicode.shifted UnicodeData.oneLower c).getD c : Nat) : Int) < 2 * oct (c : Int) ∧ oct (c : Int) < 4 * oct (((Unicode.shifted UnicodeData.oneLower c).getD c : Nat) : Int) := by
  have hp : ∀ x : Int, 1 ≤ oct x ∧ oct x ≤ 4 := fun x => by unfold oct; split <;> (try split) <;> (try split) <;> omega
  cases h : Unicode.shifted UnicodeData.oneLower c with
  | none => have := hp c; simp only [Option.getD_none]; omega
  | some d =>
    obtain ⟨⟨a, b, t⟩, hr, h1, h2, e⟩ := shifted_run h
    have hk := List.all_eq_true.mp runs_ok _ hr
    unfold runOk at hk
    rw [Bool.and_eq_true, decide_eq_true_iff, decide_eq_true_iff] at hk
    obtain ⟨k1, k2⟩ := hk
    simp only at k1 k2 h1 h2 e
    have m1 : oct (d : Int) ≤ oct ((t + (b - a) : Nat) : Int) := oct_mono (by omega)
    have m2 : oct (a : Int) ≤ oct (c : Int) := oct_mono (by omega)
    have m3 : oct (c : Int) ≤ oct (b : Int) := oct_mono (by omega)
    have m4 : oct (t : Int) ≤ oct (d : Int) := oct_mono (by omega)
    simp only [Option.getD_some]
    omega
theorem any_false {l : List Int} {c : Int} (hl : l.all keyed = true) (hc : keyed c = false) : l.any (· == c) = false := by
  rw [Bool.eq_false_iff]
  intro h
  obtain ⟨x, hx, e⟩ := List.any_eq_true.mp h
  have := List.all_eq_true.mp hl x hx
  rw [eq_of_beq e, hc] at this
  cases this
theorem quarter_false {c : Int} (hc : keyed c = false) : quarter c = false := by
  cases h : quarter c
  · rfl
  · have h' := h
    unfold quarter at h'
    rw [Bool.and_eq_true, Bool.and_eq_true, decide_eq_true_iff, decide_eq_true_iff] at h'
    have := List.all_eq_true.mp quarter_keyed (c - 119808).toNat (List.mem_range.mpr (by omega))
    rw [show ((119808 + (c - 119808).toNat : Nat) : Int) = c by omega, h, hc] at this
    cases this
theorem code_ok {c : Int} (hg : Good c) : CodeOk c (foldI c) := by
  obtain ⟨g0, g1, g2⟩ := hg
  have hcn : ((c.toNat : Nat) : Int) = c := by omega
  unfold foldI
  rw [fold_eq]
  unfold foldA
  cases h : lookA c.toNat kv with
  | some y =>
    have hm := lookA_mem (by omega) kv_asc h
    rw [hcn] at hm
    exact okB_ok (List.all_eq_true.mp tab_ok _ hm)
  | none =>
    have hk : keyed c = false := by unfold keyed; rw [h]; rfl
    have ht := two_keyed
    rw [Bool.and_eq_true, Bool.and_eq_true, Bool.and_eq_true] at ht
    obtain ⟨t1, t2, t3, t4⟩ := ht
    have n1 : twoL.any (· == c) = false := any_false t1 hk
    have n2 : doubleL.any (· == c) = false := any_false t2 hk
    have n3 : c ≠ 304 := fun e => by rw [e, t3] at hk; cases hk
    have n4 : c ≠ 13254 := fun e => by rw [e, t4] at hk; cases hk
    have n5 : (13254 == c) = false := by rw [Bool.eq_false_iff]; intro e; exact n4 (eq_of_beq e).symm
    have n6 := quarter_false hk
    dsimp only
    rw [lower_one (by omega)]
    have lf := low_facts c.toNat
    rw [hcn] at lf
    generalize (((Unicode.shifted UnicodeData.oneLower c.toNat).getD c.toNat : Nat)) = d at lf ⊢
    have o1 : octs ([d].map fun (d : Nat) => (d : Int)) = oct (d : Int) := by unfold octs; simp
    have u1 : unts ([d].map fun (d : Nat) => (d : Int)) = unt (d : Int) := by unfold unts; simp
    have l1 : (([d].map fun (d : Nat) => (d : Int)).length : Int) = 1 := by simp
    have hp : 1 ≤ oct c := by unfold oct; split <;> (try split) <;> (try split) <;> omega
    have up : 1 ≤ unt c := by unfold unt; split <;> omega
    have uq : unt (d : Int) ≤ 2 := by unfold unt; split <;> omega
    exact { a1 := by rw [o1]; omega, a2 := by rw [o1, n1]; simp; omega, b1 := fun _ => by rw [o1]; omega, b2 := fun _ => by rw [o1, n2]; simp; omega, c1 := by rw [o1]; omega, c2 := by rw [o1, n6]; simp; omega,
            d1 := by rw [l1]; omega, d2 := by rw [l1]; omega, d3 := by rw [l1, n5]; simp, e1 := by rw [u1]; omega, e2 := by rw [u1, n5]; simp; omega }
end Mine

end
section
open PySem PySem.W PyProof.Rows PySem.Calls
namespace Mine
theorem sum_le {f g : Int → Int} {p : Int → Bool} : ∀ {cs : List Int}, (∀ c ∈ cs, f c ≤ g c ∧ (f c = g c ↔ p c = true)) → (cs.map f).sum ≤ (cs.map g).sum ∧ ((cs.map f).sum = (cs.map g).sum ↔ cs.all p = true)
  | [], _ => ⟨Int.le_refl _, by simp⟩
  | c :: r, h => by
    obtain ⟨h1, h2⟩ := h c (List.mem_cons_self ..)
    obtain ⟨i1, i2⟩ := sum_le (cs := r) fun d hd => h d (List.mem_cons_of_mem _ hd)
    simp only [List.map_cons, List.sum_cons, List.all_cons, Bool.and_eq_true]
    refine ⟨by omega, ?_⟩
    rw [← h2, ← i2]
    omega
theorem sum_mul {k : Int} {f : Int → Int} : ∀ {cs : List Int}, (cs.map fun c => k * f c).sum = k * (cs.map f).sum
  | [] => by simp
  | c :: r => by simp only [List.map_cons, List.sum_cons, sum_mul (cs := r), Int.mul_add]
theorem sum_app : ∀ {l r : List Int}, (l ++ r).sum = l.sum + r.sum
  | [], r => by simp
  | a :: l, r => by rw [List.cons_append, List.sum_cons, List.sum_cons, sum_app]; omega
theorem octs_flat : ∀ {cs : List Int}, octs (cs.flatMap foldI) = (cs.map fun c => octs (foldI c)).sum
  | [] => rfl
  | c :: r => by rw [List.flatMap_cons, List.map_cons, List.sum_cons, ← octs_flat]; unfold octs; rw [List.map_append, sum_app]
theorem unts_flat : ∀ {cs : List Int}, unts (cs.flatMap foldI) = (cs.map fun c => unts (foldI c)).sum
  | [] => rfl
  | c :: r => by rw [List.flatMap_cons, List.map_cons, List.sum_cons, ← unts_flat]; unfold unts; rw [List.map_append, sum_app]
theorem len_flat : ∀ {cs : List Int}, ((cs.flatMap foldI).length : Int) = (cs.map fun c => ((foldI c).length : Int)).sum
  | [] => rfl
  | c :: r => by rw [List.flatMap_cons, List.map_cons, List.sum_cons, ← len_flat, List.length_append]; omega
theorem len_sum : ∀ {cs : List Int}, (cs.length : Int) = (cs.map fun _ => (1 : Int)).sum
  | [] => rfl
  | c :: r => by rw [List.map_cons, List.sum_cons, ← len_sum, List.length_cons]; omega
abbrev inTwo (c : Int) : Bool := twoL.any (· == c)
abbrev inDouble (c : Int) : Bool := doubleL.any (· == c)
structure LawOk (cs fs : List Int) : Prop where
  p1 : octs fs ≤ 3 * octs cs
  p2 : octs fs = 3 * octs cs ↔ cs.all inTwo = true
  q1 : cs.any inTwo = false → octs fs ≤ 2 * octs cs
  q2 : cs.any inTwo = false → (octs fs = 2 * octs cs ↔ cs.all inDouble = true)
  r1 : octs cs ≤ 4 * octs fs
  r2 : octs cs = 4 * octs fs ↔ cs.all quarter = true
  s1 : (cs.length : Int) ≤ (fs.length : Int)
  s2 : (fs.length : Int) ≤ 4 * (cs.length : Int)
  s3 : (fs.length : Int) = 4 * (cs.length : Int) ↔ cs.all (fun c => 13254 == c) = true
  t1 : unts fs ≤ 4 * unts cs
  t2 : unts fs = 4 * unts cs ↔ cs.all (fun c => 13254 == c) = true
theorem law_ok {cs : List Int} (h : ∀ c ∈ cs, Good c) : LawOk cs (cs.flatMap foldI) := by
  have a := sum_le (cs := cs) (f := fun c => octs (foldI c)) (g := fun c => 3 * oct c) (p := inTwo) fun c hc => ⟨(code_ok (h c hc)).a1, (code_ok (h c hc)).a2⟩
  have b : cs.any inTwo = false → _ := fun e => sum_le (cs := cs) (f := fun c => octs (foldI c)) (g := fun c => 2 * oct c) (p := inDouble) fun c hc =>
    have e' : twoL.any (· == c) = false := by
      cases ht : twoL.any (· == c)
      · rfl
      · exact absurd (List.any_eq_true.mpr ⟨c, hc, ht⟩) (by rw [e]; exact Bool.false_ne_true)
    ⟨(code_ok (h c hc)).b1 e', (code_ok (h c hc)).b2 e'⟩
  have c1 := sum_le (cs := cs) (f := oct) (g := fun c => 4 * octs (foldI c)) (p := quarter) fun c hc => ⟨(code_ok (h c hc)).c1, (code_ok (h c hc)).c2⟩
  have d0 := sum_le (cs := cs) (f := fun _ => 1) (g := fun c => ((foldI c).length : Int)) (p := fun c => decide ((1 : Int) = ((foldI c).length : Int))) fun c hc => ⟨(code_ok (h c hc)).d1, by rw [decide_eq_true_iff]⟩
  have d := sum_le (cs := cs) (f := fun c => ((foldI c).length : Int)) (g := fun c => 4 * (1 : Int)) (p := fun c => 13254 == c) fun c hc => ⟨by rw [Int.mul_one]; exact (code_ok (h c hc)).d2, by rw [Int.mul_one]; exact (code_ok (h c hc)).d3⟩
  have e := sum_le (cs := cs) (f := fun c => unts (foldI c)) (g := fun c => 4 * unt c) (p := fun c => 13254 == c) fun c hc => ⟨(code_ok (h c hc)).e1, (code_ok (h c hc)).e2⟩
  rw [sum_mul, ← octs_flat] at a
  rw [sum_mul, ← octs_flat] at c1
  rw [← len_flat, ← len_sum] at d0
  rw [sum_mul, ← len_flat, ← len_sum] at d
  rw [sum_mul, ← unts_flat] at e
  exact ⟨a.1, a.2, (fun z => by have := b z; rw [sum_mul, ← octs_flat] at this; exact this.1), (fun z => by have := b z; rw [sum_mul, ← octs_flat] at this; exact this.2), c1.1, c1.2, d0.1, d.1, d.2, e.1, e.2⟩
theorem good_fold_len {c : Int} (h : Good c) : (foldI c).length ≤ 4 := by have := (code_ok h).d2; omega
end Mine

end
section
open PySem PySem.W PyProof.Rows PySem.Calls
namespace Mine
inductive All2 {α : Type} (R : α → Value → Prop) : List α → List Value → Prop
  | nil : All2 R [] []
  | cons {k v ks vs} : R k v → All2 R ks vs → All2 R (k :: ks) (v :: vs)
theorem All2.snoc {α : Type} {R : α → Value → Prop} {k : α} {v : Value} (h : R k v) : ∀ {ks vs}, All2 R ks vs → All2 R (ks ++ [k]) (vs ++ [v])
  | _, _, .nil => .cons h .nil
  | _, _, .cons a r => .cons a (All2.snoc h r)
theorem All2.ints {α : Type} {g : α → Int} : ∀ {ks : List α} {vs : List Value}, All2 (fun k v => ∃ t, v = .int (g k) t) ks vs → IntsAre vs (ks.map g)
  | _, _, .nil => .nil
  | _, _, .cons ⟨t, e⟩ r => e ▸ .cons _ t r.ints
theorem All2.some {α : Type} {P : Int → Prop} : ∀ {ks : List α} {vs : List Value}, All2 (fun _ v => ∃ c t, v = .int c t ∧ P c) ks vs → ∃ ns, IntsAre vs ns ∧ (∀ c ∈ ns, P c) ∧ ns.length = ks.length
  | _, _, .nil => ⟨[], .nil, (fun _ h => nomatch h), rfl⟩
  | _, _, .cons ⟨c, t, e, p⟩ r => by
    obtain ⟨ns, h1, h2, h3⟩ := r.some
    subst e
    exact ⟨c :: ns, .cons c t h1, fun d hd => by rcases List.mem_cons.mp hd with rfl | hd; exact p; exact h2 d hd, by rw [List.length_cons, List.length_cons, h3]⟩
theorem All2.bools {α : Type} {p : α → Bool} : ∀ {ks : List α} {vs : List Value}, All2 (fun k v => v = .bool (p k)) ks vs → vs = ks.map fun k => .bool (p k)
  | _, _, .nil => rfl
  | _, _, .cons e r => by subst e; rw [r.bools]; rfl
section
variable {prog : Program} {w : World} {A : Around} {E : Value → Shared → Prop} {h₀ : Heap} {L : Addr} {m : Str → Option Value} {env : Env} {elt : Expr} {x : Str} {scope : Scope} {cl : List (Str × Addr)} {s : Shared} {S : List (Addr × Obj) → Prop} {P : Nat → Value → Prop} {Fin : List Value → List (Addr × Obj) → Prop} {news : List (Addr × Obj)}
theorem comp_rest {α : Type} {ks : List α} {n : Nat} (V : α → Value → Prop) (R : α → Value → Prop) (hks : ks.length = n) (hP : ∀ i v, i < n → P i v → ∃ k, ks[i]? = some k ∧ V k v)
    (turn : ∀ k v I oI C oC D m₂ ys h tk (E' : Value → Shared → Prop), k ∈ ks → V k v → LCg.NsObj oC m₂ → m₂ x = some v → Fr h₀ L h m → News h₀ L h ((I, oI) :: (C, oC) :: (D, LCg.lst ys) :: news) → LCg.Off3 I C D news → ((@Ne Nat I C) ∧ (@Ne Nat I D) ∧ (@Ne Nat C D)) →
      wpAny (model prog w) A (eval elt (compEnvC scope cl C env)) (LCg.CompEnd h₀ L m { s with heap := h, toks := tk } I oI C oC D (LCg.lst ys) S (fun y news' => news' = news ∧ R k y)) E' { s with heap := h, toks := tk })
    (fin : ∀ ys, All2 R ks ys → Fin ys news) : LCg.CompRest prog w A h₀ L m env elt x scope cl s S P Fin n 0 [] news := by
  have key : ∀ (j i : Nat) (ys : List Value), i + j = n → All2 R (ks.take i) ys → LCg.CompRest prog w A h₀ L m env elt x scope cl s S P Fin j i ys news := by
    intro j
    induction j with
    | zero =>
      intro i ys hi hy
      have e : i = ks.length := by omega
      subst e
      rw [List.take_length] at hy
      exact LCg.CompRest.zero (fin ys hy)
    | succ j ih =>
      intro i ys hi hy
      refine LCg.CompRest.succ ?_
      intro v I oI C oC D m₂ h tk E' hv hC hx F N off ne
      obtain ⟨k, hk, hV⟩ := hP i v (by omega) hv
      refine wpAny_mono (turn k v I oI C oC D m₂ ys h tk E' (List.mem_of_getElem? hk) hV hC hx F N off ne) (fun y s₂ hq => ?_) fun _ _ e => e
      obtain ⟨h', tk', nw, e, F', N', off', hS, rfl, hR⟩ := hq
      refine ⟨h', tk', nw, e, F', N', off', hS, ?_⟩
      refine ih (i + 1) _ (by omega) ?_
      rw [List.take_add_one, hk]
      exact hy.snoc hR
  exact key n 0 [] (by omega) (by rw [List.take_zero]; exact .nil)
/-- a comprehension over a list of numbers -/
theorem comp_list {vs : List Value} {ns : List Int} (R : Int → Value → Prop) (hi : IntsAre vs ns)
    (turn : ∀ k t I oI C oC D m₂ ys h tk (E' : Value → Shared → Prop), k ∈ ns → LCg.NsObj oC m₂ → m₂ x = some (.int k t) → Fr h₀ L h m → News h₀ L h ((I, oI) :: (C, oC) :: (D, LCg.lst ys) :: news) → LCg.Off3 I C D news → ((@Ne Nat I C) ∧ (@Ne Nat I D) ∧ (@Ne Nat C D)) →
      wpAny (model prog w) A (eval elt (compEnvC scope cl C env)) (LCg.CompEnd h₀ L m { s with heap := h, toks := tk } I oI C oC D (LCg.lst ys) S (fun y news' => news' = news ∧ R k y)) E' { s with heap := h, toks := tk })
    (fin : ∀ ys, All2 R ns ys → Fin ys news) : LCg.CompRest prog w A h₀ L m env elt x scope cl s S (fun i v => vs.toArray[i]? = some v) Fin vs.toArray.size 0 [] news :=
  comp_rest (ks := ns) (fun k v => ∃ t, v = .int k t) R (by rw [List.size_toArray]; exact hi.length.symm) (fun i v _ hv => by
    obtain ⟨k, t, e, hk⟩ := IntsAre.at hi i v (by simpa using hv)
    exact ⟨k, hk, t, e⟩) (fun k v I oI C oC D m₂ ys h tk E' hk hV hC hx F N off ne => by
    obtain ⟨t, rfl⟩ := hV
    exact turn k t I oI C oC D m₂ ys h tk E' hk hC hx F N off ne) fin
/-- a comprehension over a text -/
def CompText (prog : Program) (w : World) (A : Around) (h₀ : Heap) (L : Addr) (m : Str → Option Value) (env : Env) (elt : Expr) (x : Str) (scope : Scope) (cl : List (Str × Addr)) (Fin : Shared → List Value → List (Addr × Obj) → Prop) (xv : Value) (s₁ : Shared) : Prop :=
  ∃ xt tx news, xv = .str xt tx ∧ A.handled = none ∧ Fr h₀ L s₁.heap m ∧ News h₀ L s₁.heap news ∧ xt.cps.size ≤ sizeLine ∧
    ∀ s₂ : Shared, (∃ h, s₂ = { s₁ with heap := h }) → LCg.CompRest prog w A h₀ L m env elt x scope cl s₂ (fun _ => True) (fun i v => ∃ c t, xt.cps[i]? = some c ∧ v = .str ⟨#[c]⟩ t) (Fin s₂) xt.cps.size 0 [] news
theorem comp_text {xt : Str} (R : Nat → Value → Prop)
    (turn : ∀ c t I oI C oC D m₂ ys h tk (E' : Value → Shared → Prop), c ∈ xt.cps.toList → LCg.NsObj oC m₂ → m₂ x = some (.str ⟨#[c]⟩ t) → Fr h₀ L h m → News h₀ L h ((I, oI) :: (C, oC) :: (D, LCg.lst ys) :: news) → LCg.Off3 I C D news → ((@Ne Nat I C) ∧ (@Ne Nat I D) ∧ (@Ne Nat C D)) →
      wpAny (model prog w) A (eval elt (compEnvC scope cl C env)) (LCg.CompEnd h₀ L m { s with heap := h, toks := tk } I oI C oC D (LCg.lst ys) S (fun y news' => news' = news ∧ R c y)) E' { s with heap := h, toks := tk })
    (fin : ∀ ys, All2 R xt.cps.toList ys → Fin ys news) : LCg.CompRest prog w A h₀ L m env elt x scope cl s S (fun i v => ∃ c t, xt.cps[i]? = some c ∧ v = .str ⟨#[c]⟩ t) Fin xt.cps.size 0 [] news :=
  comp_rest (ks := xt.cps.toList) (fun c v => ∃ t, v = .str ⟨#[c]⟩ t) R (by simp) (fun i v _ hv => by
    obtain ⟨c, t, hc, e⟩ := hv
    exact ⟨c, by simpa using hc, t, e⟩) (fun c v I oI C oC D m₂ ys h tk E' hk hV hC hx F N off ne => by
    obtain ⟨t, rfl⟩ := hV
    exact turn c t I oI C oC D m₂ ys h tk E' hk hC hx F N off ne) fin
theorem ListComp_text {iter : Expr} {px : Pos} {pos : Pos} {Q : Value → Shared → Prop} (F₀ : Fr h₀ L s.heap m)
    (hclos : closureFor scope env = pure cl) (hcell : ∀ y ∈ scope.names, y.2 ≠ .cell) (hkind : scope.kind = .function)
    (hnames : ∀ y ∈ scope.names, y.2 = .local → scope.names.lookup y.1 = some .local) (hx : scope.names.lookup x = some .local)
    (h : wpAny (model prog w) A (eval iter env) (CompText prog w A h₀ L m env elt x scope cl (fun s₂ => LCg.FinE h₀ L m s₂ Q)) E s)
    (hs : ∀ x, foldedSetIterable iter env x = pure x := by intro _; rfl) :
    wpAny (model prog w) A (eval (.ListComp elt [⟨.Name x px, iter, [], 0⟩] scope pos) env) Q E s := by
  rw [eval_ListComp]
  refine wpAny_comprehension_free (use := none) rfl hs hclos hkind hnames (wpAny_mono h (fun xv s₁ h₁ => ?_) fun _ _ e => e)
  obtain ⟨xt, tx, news, rfl, hh, F, N, hsz, R⟩ := h₁
  have up : ∀ o b q, s₁.heap.get? b = some q → (s₁.heap.push o).get? b = some q := fun o b q e => Heap.get?_push_of_some _ e
  have fin : ∀ o, ∀ D C h tk m' ys news', Fr h₀ L h m → News h₀ L h ((D, LCg.lst ys) :: news') → LCg.Off1 D news' → h.Ns C m' → h₀.get? C = none → h₀.get? D = none → C ≠ L → D ≠ L → C ≠ D → (∀ p ∈ news', p.1 ≠ C) → LCg.FinE h₀ L m { s₁ with heap := s₁.heap.push o } Q ys news' →
      ∃ m', h.Ns C m' ∧ ∀ h'', Heap.SameBut C h h'' → Q (.ref D) { s₁ with heap := h'', toks := tk } := by
    intro o D C h tk m' ys news' F' N' o1 hn hC₀ hD₀ hCL hDL hCD offC fin
    refine ⟨m', hn, fun h'' hs'' => fin D h'' tk (F'.change hs'' hCL hC₀) (fun p hp => ?_) o1⟩
    refine ⟨hs''.extBut _ _ ?_ (N' p hp).1, (N' p hp).2⟩
    rcases List.mem_cons.mp hp with rfl | hp
    · exact Ne.symm hCD
    · exact offC p hp
  cases ha : xt.cps.all (· < 128)
  · refine wpAny_pyIter_wide ha ?_
    refine LCg.block_U (P := fun i v => ∃ c t, xt.cps[i]? = some c ∧ v = .str ⟨#[c]⟩ t) (Walks.strWide hh _ xt tx) hsz (fun i h st => by obtain ⟨o, e, _⟩ := st; exact ⟨o, e⟩) (fun i h h' o nw st e e' k N' S' => by obtain ⟨o', q, r⟩ := st; rw [e] at q; cases q; exact ⟨o, e', r⟩) hcell hkind hx ⟨_, Heap.get?_push_size _ rfl, rfl, rfl⟩ (fun b hb => ?_)
      (F.keeps (up _)) (N.grown (up _)) (Nat.ne_of_lt F.ns.lt) (next_is_new F) (fun p hp => Nat.ne_of_lt (Heap.lt_size (N p hp).1)) trivial (R _ ⟨_, rfl⟩) ?_
    · rw [List.mem_singleton.mp hb]
      show s₁.heap.objs.size < (s₁.heap.push _).objs.size
      rw [Heap.size_push]; exact Nat.lt_succ_self _
    · exact fin _
  · refine wpAny_pyIter_ascii ha ?_
    refine LCg.block_U (P := fun i v => ∃ c t, xt.cps[i]? = some c ∧ v = .str ⟨#[c]⟩ t) (Walks.strAscii hh _ xt tx) hsz (fun i h st => by obtain ⟨o, e, _⟩ := st; exact ⟨o, e⟩) (fun i h h' o nw st e e' k N' S' => by obtain ⟨o', q, r⟩ := st; rw [e] at q; cases q; exact ⟨o, e', r⟩) hcell hkind hx ⟨_, Heap.get?_push_size _ rfl, rfl, rfl⟩ (fun b hb => ?_)
      (F.keeps (up _)) (N.grown (up _)) (Nat.ne_of_lt F.ns.lt) (next_is_new F) (fun p hp => Nat.ne_of_lt (Heap.lt_size (N p hp).1)) trivial (R _ ⟨_, rfl⟩) ?_
    · rw [List.mem_singleton.mp hb]
      show s₁.heap.objs.size < (s₁.heap.push _).objs.size
      rw [Heap.size_push]; exact Nat.lt_succ_self _
    · exact fin _
end
end Mine

end
open PySem PySem.W PyProof.Rows PySem.Calls
open Mine
/-- a call from the law's own level -/
theorem Mine.CT.top {w : World} {f : Addr} {vs : List Value} {R : Heap → Addr → (Str → Option Value) → List (Addr × Obj) → Shared → (Value → Shared → Prop) → Prop} {d : Nat} (C : CT w f vs R d)
    {loose : List Str} {mean : ExcName → Option Value} {mg mb : Str → Option Value} {cn : Str} {cs : Scope} {a : Addr} {ccd : Value} {h₀ : Heap} {L : Addr}
    {m : Str → Option Value} {news : List (Addr × Obj)} {s : Shared} {Q E : Value → Shared → Prop}
    (F : Fr h₀ L s.heap m) (X : (K w.params).In h₀) (N : News h₀ L s.heap news) (T : Top vq loose mean mg mb h₀) (hk : cs.kind = .function) (hd : (callerA.deeper (envOf cn cs L a ccd)).depth + d < recursionLimit) (hu : (callerA.deeper (envOf cn cs L a ccd)).units + 40 * d < cLine)
    (hR : R h₀ L m news s Q) : wpAny (model pw w) (callerA.deeper (envOf cn cs L a ccd)) (call (.ref f) vs) Q E s :=
  C loose mean mg mb _ _ _ cn cs a ccd [] [] callerA h₀ h₀ L m news s Q E (below_caller h₀) F X N T hk hd hu hR
def Mine.K2 (D6 : Addr) (us6 : List Value) (cap6 : Nat) (ks6 : List Int) (Jad : Addr) (l : List Value) (m : Str → Option Value) (news : List (Addr × Obj)) : Prop := ∃ (u : Str → Option Value) (f : Addr) (us2 : List Value) (done rest : List Int), m = (fun y => if y = Str.ofString "folded" then some (.ref f) else if y = Str.ofString "codes" then some (.ref D6) else u y) ∧ news = [(f, W.listOf us2.toArray 0), (D6, W.listOf us6.toArray cap6)] ∧ IntsAre l rest ∧ IntsAre us2 (done.flatMap foldI) ∧ done ++ rest = ks6 ∧ (f < Jad ∨ Jad < f)
theorem Mine.flat4 {f : Int → List Int} : ∀ {l : List Int}, (∀ c ∈ l, (f c).length ≤ 4) → (l.flatMap f).length ≤ 4 * l.length
  | [], _ => by simp
  | c :: r, h => by
    rw [List.flatMap_cons, List.length_append, List.length_cons]
    have := h c (List.mem_cons_self ..)
    have := Mine.flat4 (l := r) fun d hd => h d (List.mem_cons_of_mem _ hd)
    omega
theorem Mine.notin_boolsN {prog : Program} {w : World} {A : Around} {E : Value → Shared → Prop} {s : Shared} {h₀ : Heap} {L D : Addr} {rest : List (Addr × Obj)} {ks : List Int} {p : Int → Bool} {b : Bool} {Q : Value → Shared → Prop} (N : News h₀ L s.heap ((D, LCg.lst (ks.map fun k => Value.bool (p k))) :: rest))
    (h : Q (.bool (!(ks.any fun k => p k == b))) s) : wpAny (model prog w) A (compareOp .NotIn (.bool b) (.ref D)) Q E s := by
  refine PySem.SeqAt.notIn_listAt (fun y => match y with | .bool c => c == b | _ => false) ⟨_, (N _ (List.mem_cons_self ..)).1, rfl, _, rfl⟩ (fun y hy => ?_) ?_
  · obtain ⟨k, _, rfl⟩ := List.mem_map.mp (show y ∈ ks.map fun k => Value.bool (p k) by simpa using hy)
    exact PySem.SeqAt.EqAt.bool_bool _ _
  · have e : (ks.map fun k => Value.bool (p k)).toArray.any (fun y => match y with | .bool c => c == b | _ => false) = ks.any fun k => p k == b := by
      rw [← Array.any_toList]
      simp [List.any_map, Function.comp_def]
    rw [e]; exact h
def Mine.IfMark : Prop := True
theorem Mine.canonF2 {h₀ : Heap} {L : Addr} {h : Heap} {m' : Str → Option Value} {x y : Str} {vx vy : Value} (F : Fr h₀ L h m') (hx : m' x = some vx) (hy : m' y = some vy) : Fr h₀ L h (fun n => if n = x then some vx else if n = y then some vy else m' n) := by rw [← canonM2 hx hy]; exact F
theorem Mine.news_first {g : Heap} {L : Addr} {h : Heap} {a : Addr × Obj} {l : List (Addr × Obj)} (N : News g L h (a :: l)) : News g L h [a] := fun p hp => N p (List.mem_cons.mpr (.inl (List.mem_singleton.mp hp)))
def Mine.HeadPost (g : Heap) (L : Addr) (m : Str → Option Value) (s : Shared) (v : Value) (s' : Shared) : Prop := ∃ (i : Int) (t : Tok) (h : Heap) (tk : Nat), v = .int i t ∧ s' = { s with heap := h, toks := tk } ∧ Fr g L h m
theorem Mine.cut_head {M : Model} {A : Around} {E : Value → Shared → Prop} {Q : Value → Shared → Prop} {t : Sem Value} {g h1 : Heap} {L : Addr} {m : Str → Option Value} {s : Shared} (F0 : Fr g L h1 m) (h : IfMark → wpAny M A t (HeadPost g L m s) E s) (k : ∀ i t' h tk, Fr g L h m → News g L h [] → Q (.int i t') { s with heap := h, toks := tk }) : wpAny M A t Q E s :=
  wpAny_mono (h True.intro) (fun v s' ⟨i, t', h, tk, e1, e2, F⟩ => by rw [e1, e2]; exact k i t' h tk F fun _ hp => nomatch hp) fun _ _ e => e
def Mine.SamePost (g : Heap) (L : Addr) (m : Str → Option Value) (news : List (Addr × Obj)) (s : Shared) (f : Flow) (s' : Shared) : Prop := f = .next ∧ ∃ (h : Heap) (tk : Nat), s' = { s with heap := h, toks := tk } ∧ Fr g L h m ∧ News g L h news
theorem Mine.cut_same {M : Model} {A : Around} {E : Value → Shared → Prop} {Q : Flow → Shared → Prop} {t : Sem Flow} {g h1 : Heap} {L : Addr} {m : Str → Option Value} {news : List (Addr × Obj)} {s : Shared} (F0 : Fr g L h1 m) (N0 : News g L h1 news) (h : IfMark → wpAny M A t (SamePost g L m news s) E s)
    (k : ∀ h tk, Fr g L h m → News g L h news → Q .next { s with heap := h, toks := tk }) : wpAny M A t Q E s :=
  wpAny_mono (h True.intro) (fun v s' ⟨e1, h, tk, e2, F, N⟩ => by rw [e1, e2]; exact k h tk F N) fun _ _ e => e
theorem Mine.all_any {p : Int → Bool} : ∀ {ks : List Int}, (!(ks.any fun k => p k == false)) = ks.all p
  | [] => rfl
  | k :: r => by rw [List.any_cons, List.all_cons, Bool.not_or, Mine.all_any (ks := r)]; cases p k <;> rfl
theorem Mine.any_any {p : Int → Bool} : ∀ {ks : List Int}, (ks.any fun k => p k == true) = ks.any p
  | [] => rfl
  | k :: r => by rw [List.any_cons, List.any_cons, Mine.any_any (ks := r)]; cases p k <;> rfl
theorem Mine.eq_all {x y : Int} {p : Int → Bool} {ks : List Int} (h : x = y ↔ ks.all p = true) : ((x == y) != !(ks.any fun k => p k == false)) = false := by
  rw [Mine.all_any]
  cases ha : ks.all p
  · have : ¬ x = y := fun e => by rw [h.mp e] at ha; cases ha
    simp [this]
  · have : x = y := h.mpr ha
    simp [this]
def Mine.CodesPost (g : Heap) (L : Addr) (s : Shared) (f : Flow) (s' : Shared) : Prop := f = .next ∧ ∃ (u : Str → Option Value) (h : Heap) (tk : Nat) (D : Addr) (us : List Value) (cap : Nat) (ks : List Int) (hd : Int) (ht : Tok), s' = { s with heap := h, toks := tk } ∧ Fr g L h (fun y => if y = Str.ofString "codes" then some (.ref D) else if y = Str.ofString "head" then some (.int hd ht) else u y) ∧
  News g L h [(D, W.listOf us.toArray cap)] ∧ IntsAre us ks ∧ (∀ c ∈ ks, Good c) ∧ ks.length ≤ 30
theorem Mine.cut_codes {M : Model} {A : Around} {E : Value → Shared → Prop} {Q : Flow → Shared → Prop} {t : Sem Flow} {g h1 : Heap} {L : Addr} {m : Str → Option Value} {s : Shared} (F0 : Fr g L h1 m) (h : IfMark → wpAny M A t (CodesPost g L s) E s)
    (k : ∀ (u : Str → Option Value) h tk D us cap ks hd ht, Fr g L h (fun y => if y = Str.ofString "codes" then some (.ref D) else if y = Str.ofString "head" then some (.int hd ht) else u y) → News g L h [(D, W.listOf us.toArray cap)] → IntsAre us ks → (∀ c ∈ ks, Good c) → ks.length ≤ 30 → Q .next { s with heap := h, toks := tk }) : wpAny M A t Q E s :=
  wpAny_mono (h True.intro) (fun v s' ⟨e1, u, h, tk, D, us, cap, ks, hd, ht, e2, F, N, hI, hG, hL⟩ => by rw [e1, e2]; exact k u h tk D us cap ks hd ht F N hI hG hL) fun _ _ e => e
local macro_rules | `(tactic| walk_at "execs cons") => `(tactic| (k_here; (with_reducible show wpAny _ _ _ _ _ { heap := _, gens := _, drawn := _, toks := _ + 1, os := _ }); k_dflt (refine Mine.gen_toks ?_); intro tk))
local macro_rules | `(tactic| walk_at "execs nil") => `(tactic| (k_here; (with_reducible show wpAny _ _ _ _ _ { heap := _, gens := _, drawn := _, toks := _ + 1, os := _ }); k_dflt (refine Mine.gen_toks ?_); intro tk))
local macro_rules | `(tactic| walk_at "exec If") => `(tactic| (k_here; (fail_if_success (rename Mine.IfMark => hIM)); refine Stop.out ?_; walk_say "STOP AT IF"))
local macro_rules | `(tactic| walk_at "eval IfExp") => `(tactic| (k_here; (fail_if_success (rename Mine.IfMark => hIM)); refine Stop.out ?_; walk_say "STOP AT IFEXP"))
local macro_rules | `(tactic| walk_at "eval ListComp") => `(tactic| (k_here; k_dflt (refine LCg.ListComp_U (F₀ := by k_asm) (by with_unfolding_all rfl) (by decide) (by rfl) (by decide) (by rfl) ?_)))
local macro_rules | `(tactic| walk_at "exec Assign cons ListComp") => `(tactic| (k_here; k_dflt (refine LCg.Assign_ListComp_U (F₀ := by k_asm) (by rfl) (by with_unfolding_all rfl) (by with_unfolding_all rfl) (by decide) (by rfl) (by decide) (by rfl) (by rfl) (by rfl) ?_)))
local macro_rules | `(tactic| walk_at "CompSrc") => `(tactic| (k_here; refine Stop.out ?_; walk_say "STOP AT COMP"))
local macro_rules | `(tactic| walk_at "eval Call") => `(tactic| (k_here; k_dflt (refine Call_ ?_)))
local macro_rules | `(tactic| walk_at "CompEnd") => `(tactic| (k_here; refine Stop.out ?_; walk_say "STOP AT COMPEND"))
local macro_rules | `(tactic| walk_at "eval Name") => `(tactic| (k_here; (with_reducible show wpAny _ _ (eval (Expr.Name _ _) (compEnvC _ _ _ _)) _ _ _); k_dflt (first
  | refine LCgL.ld_own (by k_asm) (by k_mem) (by with_reducible assumption) (by with_reducible assumption) ?_
  | refine LCgL.ld_global (by k_asm) (by k_asm) (by k_asm) (by k_is) ?_
  | refine LCgL.ld_built (by k_asm) (by k_asm) (by k_asm) (by k_is) (by boot_by_name) (by decide) ?_)))
local macro_rules | `(tactic| walk_at "call ref") => `(tactic| (k_here; first
  | ((with_reducible show wpAny _ _ (call (Value.ref 91) [_]) _ _ _); k_dflt (refine' CT.top (any_ct _ _ _) (by with_reducible assumption) (by with_reducible assumption) (by with_reducible assumption) (by with_reducible assumption) (by first | exact rfl | assumption) (by first | ktr_room | decide +kernel) (by first | ktr_units | decide +kernel) ?_); k_whole; walk_say "ANY"; intro c' t' h' tk' hc' F' N'; (try k_sweep))
  | ((with_reducible show wpAny _ _ (call (Value.ref 84) [_]) _ _ _); k_dflt (refine' CT.top (great_ct _ _ _) (by with_reducible assumption) (by with_reducible assumption) (by with_reducible assumption) (by with_reducible assumption) (by first | exact rfl | assumption) (by first | ktr_room | decide +kernel) (by first | ktr_units | decide +kernel) ?_); k_whole; walk_say "GREAT"; intro c' t' h' tk' hc' F' N'; (try k_sweep))
  | ((with_reducible show wpAny _ _ (call (Value.ref 70) [_]) _ _ _); k_dflt (refine' CT.top (whole_ct _ _ _) (by with_reducible assumption) (by with_reducible assumption) (by with_reducible assumption) (by with_reducible assumption) (by first | exact rfl | assumption) (by first | ktr_room | decide +kernel) (by first | ktr_units | decide +kernel) ?_); k_whole; walk_say "WHOLE"; intro c' t' h' tk' hc' F' N'; (try k_sweep))
  | ((with_reducible show wpAny _ _ (call (Value.ref 77) [_]) _ _ _); k_dflt (refine' CT.top (quarter_ct _ _ _) (by with_reducible assumption) (by with_reducible assumption) (by with_reducible assumption) (by with_reducible assumption) (by first | exact rfl | assumption) (by first | ktr_room | decide +kernel) (by first | ktr_units | decide +kernel) ?_); k_whole; walk_say "QUARTER"; intro h' tk' F' N'; (try k_sweep))
  | ((with_reducible show wpAny _ _ (call (Value.ref 60) [_]) _ _ _); k_dflt (refine' CT.top (b3_ct _ _ _) (by with_reducible assumption) (by with_reducible assumption) (by with_reducible assumption) (by with_reducible assumption) (by first | exact rfl | assumption) (by first | ktr_room | decide +kernel) (by first | ktr_units | decide +kernel) ?_); k_whole; walk_say "B3"; intro t' h' tk' F' N'; (try k_sweep))
  | (refine Stop.out ?_; walk_say "STOP AT CALL")))
local macro_rules | `(tactic| walk_at "exec For") => `(tactic| (k_here; (rename Fr _ _ _ _ => lF'); (with_unfolding_all refine' For_invVF lF' ?k1 ?k2 ?_; (case k1 => exact rfl); (case k2 => exact rfl); k_whole)))
local macro_rules | `(tactic| walk_at "exec For Name Name cons nil") => `(tactic| (k_here; (rename Fr _ _ _ _ => lF'); (with_unfolding_all refine' For_invVF lF' ?k1 ?k2 ?_; (case k1 => exact rfl); (case k2 => exact rfl); k_whole)))
local macro_rules | `(tactic| walk_at "pyIter ref") => `(tactic| (k_here; refine Stop.out ?_; walk_say "STOP AT ITER"))
local macro_rules | `(tactic| walk_at "UnrEnd") => `(tactic| (k_here; refine Stop.out ?_; walk_say "STOP AT UNREND"))
local macro_rules | `(tactic| walk_at "compareOp In int ref") => `(tactic| (k_here; first | ((with_reducible show wpAny _ _ (compareOp CmpOp.In (Value.int _ _) (Value.ref 61)) _ _ _); k_dflt (refine' Mine.in61 (by k_asm) (by k_asm) ?_); k_whole) | ((with_reducible show wpAny _ _ (compareOp CmpOp.In (Value.int _ _) (Value.ref 62)) _ _ _); k_dflt (refine' Mine.in62 (by k_asm) (by k_asm) ?_); k_whole) | ((with_reducible show wpAny _ _ (compareOp CmpOp.In (Value.int _ _) (Value.ref 63)) _ _ _); k_dflt (refine' Mine.in63 (by k_asm) (by k_asm) ?_); k_whole)))
local macro_rules | `(tactic| walk_at "compareOp NotIn bool ref") => `(tactic| (k_here; k_dflt (refine Mine.notin_boolsN (by with_reducible assumption) ?_); walk_say "NOTIN"))
local macro_rules | `(tactic| walk_at "CompText") => `(tactic| (k_here; refine Stop.out ?_; walk_say "STOP AT COMPTEXT"))
local macro_rules | `(tactic| walk_at "eval ListComp") => `(tactic| (k_here; (with_reducible show wpAny _ _ (eval (Expr.ListComp _ [⟨_, Expr.Call _ _ _ _, _, _⟩] _ _) _) _ _ _); k_dflt (refine ListComp_text (F₀ := by k_asm) (by with_unfolding_all rfl) (by decide) (by rfl) (by decide) (by rfl) ?_)))
local macro_rules | `(tactic| walk_at "call builtin:ord") => `(tactic| (k_here; (with_reducible show wpAny _ _ (call (Value.builtin "ord") [Value.str _ _]) _ _ _); refine' ord_one ?_; k_whole; (try dsimp only)))
set_option maxHeartbeats 40000000 in
theorem PySem.Challenge.cw_dw5011_02_holds : PySem.Challenge.rw_dw5011_02.Holds := by
  w_on; o_law
  refine holds_open (q := Mine.vq) (loose := Mine.looseM) (Xt := Mine.XtM) (XP := XL Mine.vq []) (Yf := Hook.obs (kHook Mine.K Mine.asK Mine.as_K)) (Ya := Hook.val (kHook Mine.K Mine.asK Mine.as_K)) (YP := Hook.says (kHook Mine.K Mine.asK Mine.as_K)) (N := 50000) Mine.left (Hook.of (kHook Mine.K Mine.asK Mine.as_K)) (Hook.keeps (kHook Mine.K Mine.asK Mine.as_K)) (fun s e => xl_of s (Bool.and_eq_true_iff.mp e).1) XL.keeps (by rfl) (by rfl) (by rfl) (fun s e => recFacts_of (Bool.and_eq_true_iff.mp e).2) (by rfl) (by assumption) (by decide +kernel) ⟨rfl, rfl, rfl, rfl, rfl, by decide +kernel⟩ ?hw ?hc
  case hw => w_witness2
  w_strict (
    k_go0; (try dsimp only [rhsOf]); k_steps
    unfold Stop
    rename_i h1 F0 N0
    refine cut_head F0 (fun hm => ?hd) (fun hd ht h2 tk2 F2 N2 => ?_)
    case hd =>
      k_steps
      · exact ⟨_, _, _, _, rfl, rfl, by assumption⟩
      · exfalso
        have hne := of_decide_eq_false (by assumption)
        exact hne (List.eq_nil_of_length_eq_zero (by omega))
      · exact ⟨_, _, _, _, rfl, rfl, by assumption⟩
    clear F0 N0
    k_steps
    unfold Stop
    rename_i D3 us3 h3a hI3 hC3 hL3 l13 h3 F3 N3 tk3
    refine cut_codes F3 (fun hm => ?cd) (fun u4 h4 tk4 D4 us4 cap4 ks4 hd4 ht4 F4 N4 hI4 hG4 hL4 => ?_)
    case cd =>
      k_steps
      all_goals unfold Stop
      · refine LCg.CompSrc.ledger (by rfl) (by with_reducible assumption) (by with_reducible assumption) (List.mem_cons_self ..) (by rw [List.size_toArray, hI3.length]; exact Nat.le_trans (show _ ≤ 30 by omega) (by decide)) (fun g => ?_)
        refine comp_list (fun _ y => ∃ c t, y = .int c t ∧ Good c) hI3 (fun k t I oI C oC D m₂ ys h tk E' hk hC hx F N off ne => ?turn0) (fun ys hys => ?fin0)
        case turn0 =>
          k_steps
          unfold Stop
          exact LCg.CompEnd.intro (by with_reducible assumption) (by with_reducible assumption) _ (fun p hp => hp) off (.inr ⟨_, List.mem_cons_self .., rfl, _, rfl⟩) ⟨rfl, _, _, rfl, by assumption⟩
        case fin0 =>
          obtain ⟨ns, n1, n2, n3⟩ := hys.some
          k_steps
          exact ⟨rfl, _, _, _, _, ys, _, ns, hd, ht, rfl, canonF2 (by assumption) (by with_unfolding_all rfl) (by with_unfolding_all rfl), news_first (by assumption), n1, n2, by omega⟩
      · refine LCg.CompSrc.ledger (by rfl) (by with_reducible assumption) (by with_reducible assumption) (List.mem_cons_self ..) (by rw [List.size_toArray, hI3.length]; exact Nat.le_trans (show _ ≤ 30 by omega) (by decide)) (fun g => ?_)
        refine comp_list (fun _ y => ∃ c t, y = .int c t ∧ Good c) hI3 (fun k t I oI C oC D m₂ ys h tk E' hk hC hx F N off ne => ?turn1) (fun ys hys => ?fin1)
        case turn1 =>
          k_steps
          unfold Stop
          exact LCg.CompEnd.intro (by with_reducible assumption) (by with_reducible assumption) _ (fun p hp => hp) off (.inr ⟨_, List.mem_cons_self .., rfl, _, rfl⟩) ⟨rfl, _, _, rfl, good_getD good61 (Int.fmod_nonneg_of_pos _ (by decide)) (Int.fmod_lt_of_pos _ (by decide))⟩
        case fin1 =>
          obtain ⟨ns, n1, n2, n3⟩ := hys.some
          k_steps
          exact ⟨rfl, _, _, _, _, ys, _, ns, hd, ht, rfl, canonF2 (by assumption) (by with_unfolding_all rfl) (by with_unfolding_all rfl), news_first (by assumption), n1, n2, by omega⟩
      · refine LCg.CompSrc.ledger (by rfl) (by with_reducible assumption) (by with_reducible assumption) (List.mem_cons_self ..) (by rw [List.size_toArray, hI3.length]; exact Nat.le_trans (show _ ≤ 30 by omega) (by decide)) (fun g => ?_)
        refine comp_list (fun _ y => ∃ c t, y = .int c t ∧ Good c) hI3 (fun k t I oI C oC D m₂ ys h tk E' hk hC hx F N off ne => ?turn2) (fun ys hys => ?fin2)
        case turn2 =>
          k_steps
          unfold Stop
          exact LCg.CompEnd.intro (by with_reducible assumption) (by with_reducible assumption) _ (fun p hp => hp) off (.inr ⟨_, List.mem_cons_self .., rfl, _, rfl⟩) ⟨rfl, _, _, rfl, by unfold Mine.Good; omega⟩
        case fin2 =>
          obtain ⟨ns, n1, n2, n3⟩ := hys.some
          k_steps
          exact ⟨rfl, _, _, _, _, ys, _, ns, hd, ht, rfl, canonF2 (by assumption) (by with_unfolding_all rfl) (by with_unfolding_all rfl), news_first (by assumption), n1, n2, by omega⟩
      · refine LCg.CompSrc.ledger (by rfl) (by with_reducible assumption) (by with_reducible assumption) (List.mem_cons_self ..) (by rw [List.size_toArray, hI3.length]; exact Nat.le_trans (show _ ≤ 30 by omega) (by decide)) (fun g => ?_)
        refine comp_list (fun _ y => ∃ c t, y = .int c t ∧ Good c) hI3 (fun k t I oI C oC D m₂ ys h tk E' hk hC hx F N off ne => ?turn3) (fun ys hys => ?fin3)
        case turn3 =>
          k_steps
          unfold Stop
          exact LCg.CompEnd.intro (by with_reducible assumption) (by with_reducible assumption) _ (fun p hp => hp) off (.inr ⟨_, List.mem_cons_self .., rfl, _, rfl⟩) ⟨rfl, _, _, rfl, good_getD good62 (Int.fmod_nonneg_of_pos _ (by decide)) (Int.fmod_lt_of_pos _ (by decide))⟩
        case fin3 =>
          obtain ⟨ns, n1, n2, n3⟩ := hys.some
          k_steps
          exact ⟨rfl, _, _, _, _, ys, _, ns, hd, ht, rfl, canonF2 (by assumption) (by with_unfolding_all rfl) (by with_unfolding_all rfl), news_first (by assumption), n1, n2, by omega⟩
      · refine LCg.CompSrc.ledger (by rfl) (by with_reducible assumption) (by with_reducible assumption) (List.mem_cons_self ..) (by rw [List.size_toArray, hI3.length]; exact Nat.le_trans (show _ ≤ 30 by omega) (by decide)) (fun g => ?_)
        refine comp_list (fun _ y => ∃ c t, y = .int c t ∧ Good c) hI3 (fun k t I oI C oC D m₂ ys h tk E' hk hC hx F N off ne => ?turn4) (fun ys hys => ?fin4)
        case turn4 =>
          k_steps
          unfold Stop
          exact LCg.CompEnd.intro (by with_reducible assumption) (by with_reducible assumption) _ (fun p hp => hp) off (.inr ⟨_, List.mem_cons_self .., rfl, _, rfl⟩) ⟨rfl, _, _, rfl, by assumption⟩
        case fin4 =>
          obtain ⟨ns, n1, n2, n3⟩ := hys.some
          k_steps
          exact ⟨rfl, _, _, _, _, ys, _, ns, hd, ht, rfl, canonF2 (by assumption) (by with_unfolding_all rfl) (by with_unfolding_all rfl), news_first (by assumption), n1, n2, by omega⟩
    clear F3 N3 l13
    k_steps
    unfold Stop
    rename_i tk5
    refine cut_codes F4 (fun hm => ?cd2) (fun u6 h6 tk6 D6 us6 cap6 ks6 hd6 ht6 F6 N6 hI6 hG6 hL6 => ?_)
    case cd2 =>
      by_cases hk0 : ks4 = []
      · subst hk0
        k_steps
        all_goals first | exact ⟨rfl, _, _, _, D4, us4, cap4, [], hd4, ht4, rfl, canonF2 (by assumption) (by with_unfolding_all rfl) (by with_unfolding_all rfl), N4, hI4, hG4, hL4⟩ | exact ⟨rfl, _, _, _, D4, us4, cap4, [], hd4, ht4, rfl, canonF2 (by assumption) (by with_unfolding_all rfl) (by with_unfolding_all rfl), (fun p hp => (show News _ _ _ [_, _] from by assumption) p (List.mem_cons_of_mem _ hp)), hI4, hG4, hL4⟩
      · have hkl : 0 < (ks4.length : Int) := by have := List.length_pos_iff.mpr hk0; omega
        have hp0 : 0 ≤ (hd4.fdiv 10).fmod ks4.length := Int.fmod_nonneg_of_pos _ hkl
        have hp1 : (hd4.fdiv 10).fmod ks4.length < ks4.length := Int.fmod_lt_of_pos _ hkl
        k_steps
        · refine ⟨rfl, _, _, _, _, _, _, _, hd4, ht4, rfl, canonF2 (by assumption) (by with_unfolding_all rfl) (by with_unfolding_all rfl), news_first (by assumption), by assumption, ?_, ?_⟩
          · intro c hc
            rcases List.mem_append.mp hc with hc | hc
            · rcases List.mem_append.mp hc with hc | hc
              · exact hG4 _ (List.mem_of_mem_take hc)
              · rw [List.mem_singleton.mp hc]; assumption
            · exact hG4 _ (List.mem_of_mem_drop hc)
          · simp only [List.length_append, List.length_take, List.length_drop, List.length_cons, List.length_nil]
            omega
        · exact ⟨rfl, _, _, _, D4, us4, cap4, ks4, hd4, ht4, rfl, canonF2 (by assumption) (by with_unfolding_all rfl) (by with_unfolding_all rfl), N4, hI4, hG4, hL4⟩
    clear F4 N4
    k_steps
    unfold Stop
    rename_i fA hA ltA hB FB NB tkB
    refine iter_listUnr (by rfl) FB NB (List.mem_cons_of_mem _ (List.mem_cons_self ..)) rfl rfl (fun Jad hJ0 => ?_)
    have hDJ : D6 < Jad := hJ0 (D6, _) (List.mem_cons_of_mem _ (List.mem_cons_self ..))
    refine list_ind (I := Mine.K2 D6 us6 cap6 ks6 Jad) ?turnL ?finL _ _ _ ⟨_, fA, [], [], ks6, canonM2 (by with_unfolding_all rfl) (by with_unfolding_all rfl), rfl, hI6, IntsAre.nil, rfl, .inl (hJ0 _ (List.mem_cons_self ..))⟩
    case turnL =>
      clear hJ0 FB NB
      rintro v r _ _ ⟨u, f, us2, done, rest, rfl, rfl, hIl, hI2, hcs, hf⟩ it h7 tk7 hit F7 N7
      cases hIl with
      | cons code t hIl' =>
      have hgc : Mine.Good code := hG6 _ (by rw [← hcs]; exact List.mem_append_right _ (List.mem_cons_self ..))
      have hc0 : 0 ≤ code := hgc.1
      have hc1 : code < 1114112 := hgc.2.1
      have hdn : done.length + 1 ≤ 30 := by rw [← hcs, List.length_append, List.length_cons] at hL6; omega
      have hfl : (foldI code).length ≤ 4 := good_fold_len hgc
      have hfs : (fold code.toNat).cps.size ≤ 4 := by unfold foldI at hfl; rw [List.length_map, Array.length_toList] at hfl; exact hfl
      have hbd : (done.flatMap foldI).length ≤ 200 := by
        have := flat4 (l := done) (f := foldI) fun c hc => good_fold_len (hG6 c (by rw [← hcs]; exact List.mem_append_left _ hc))
        omega
      k_steps
      unfold Stop
      refine' CT.top (b3_ct _ _ _) F7 ?qqe3 N7 ?qqe5 ?qqeK ?qqed ?qqeu ?qqeR
      case qqe3 => k_asm
      case qqe5 => k_asm
      case qqeK => exact rfl
      case qqed => first | ktr_room | decide +kernel
      case qqeu => first | ktr_units | decide +kernel
      intro t' h' tk' F' N'
      k_sweep
      k_steps
      unfold Stop
      refine ⟨_, _, _, rfl, by rfl, F', N', Nat.le_trans hfs (by decide), ?_⟩
      rintro s₂ ⟨hh, rfl⟩
      refine comp_text (fun c y => ∃ t, y = .int (c : Int) t) (fun c t I oI C oC D m₂ ys h tk E' hk hC hx F N off ne => ?turnT) (fun ys hys => ?finT)
      case turnT =>
        k_steps
        unfold Stop
        exact LCg.CompEnd.intro F N _ (fun p hp => hp) off True.intro ⟨rfl, _, rfl⟩
      case finT =>
        have hyI : IntsAre ys (foldI code) := hys.ints
        k_steps
        unfold Stop
        rename_i DL hz1 tkz1 oz1 DN wsN hz2 FZ1 NZ1 hIN ltN hz FZ NZ tkz
        refine unrEnd_lt FZ NZ [(DN, W.listOf wsN.toArray 0), (D6, W.listOf us6.toArray cap6)] (List.mem_cons_of_mem _ (List.mem_cons_of_mem _ (List.mem_cons_self ..))) (fun p hp => ?_) (fun p hp => ?_) ⟨List.mem_cons_of_mem _ (List.mem_cons_self ..), ?_⟩
        · simp only [List.mem_cons, List.not_mem_nil, or_false] at hp ⊢
          rcases hp with h | h
          · exact .inl h
          · exact .inr (.inr (.inr (.inr h)))
        · simp only [List.mem_cons, List.not_mem_nil, or_false] at hp
          rcases hp with rfl | rfl
          · exact .inr ltN.2.1
          · exact .inl hDJ
        · exact ⟨_, DN, wsN, done ++ [code], _, canonM2 (by with_unfolding_all rfl) (by with_unfolding_all rfl), rfl, hIl', (by rw [List.flatMap_append, List.flatMap_cons, List.flatMap_nil, List.append_nil]; exact hIN), (by rw [List.append_assoc]; exact hcs), .inr ltN.2.1⟩
    rintro _ _ ⟨u, fD, us2, done, rest, rfl, rfl, hIl, hI2, hcs, hf⟩ h8 tk8 F8 N8
    clear hJ0 FB NB
    cases hIl
    rw [List.append_nil] at hcs
    subst hcs
    have ok := law_ok hG6
    k_steps
    unfold Stop
    refine' CT.top (octets_ct _ D6 us6 done cap6 hI6) F8 ?a3 N8 ?a5 ?aK ?ad ?au ⟨List.mem_cons_of_mem _ (List.mem_cons_self ..), ?aR⟩
    case a3 => k_asm
    case a5 => k_asm
    case aK => exact rfl
    case ad => first | ktr_room | decide +kernel
    case au => first | ktr_units | decide +kernel
    intro aV tA hA tkA haV FA NA
    k_sweep
    k_steps
    unfold Stop
    refine' CT.top (octets_ct _ fD us2 (done.flatMap foldI) 0 hI2) (by with_reducible assumption) ?b3 (by with_reducible assumption) ?b5 ?bK ?bd ?bu ⟨List.mem_cons_self .., ?bR⟩
    case b3 => k_asm
    case b5 => k_asm
    case bK => exact rfl
    case bd => first | ktr_room | decide +kernel
    case bu => first | ktr_units | decide +kernel
    intro bV tB hB tkB' hbV FB NB
    k_sweep
    have p1 : bV ≤ 3 * aV := by rw [haV, hbV]; exact ok.p1
    k_steps
    unfold Stop
    rename_i hnA FnA NnA tknA
    have e1 := eq_all (x := bV) (y := 3 * aV) (ks := done) (p := inTwo) (by rw [haV, hbV]; exact ok.p2)
    refine cut_same FnA NnA (fun hm => ?i1) (fun h10 tk10 F10 N10 => ?_)
    case i1 =>
      k_steps
      unfold Stop
      refine LCg.CompSrc.ledger (by rfl) (by with_reducible assumption) (by with_reducible assumption) (List.mem_cons_of_mem _ (List.mem_cons_self ..)) (by rw [List.size_toArray, hI6.length]; exact Nat.le_trans hL6 (by decide)) (fun g => ?_)
      refine comp_list (fun k y => y = .bool (inTwo k)) hI6 (fun k t I oI C oC D m₂ ys h tk E' hk hC hx F N off ne => ?turnA) (fun ys hys => ?finA)
      case turnA =>
        k_steps
        unfold Stop
        exact LCg.CompEnd.intro F N _ (fun p hp => hp) off (.inr ⟨_, List.mem_cons_of_mem _ (List.mem_cons_self ..), rfl, _, rfl⟩) ⟨rfl, rfl⟩
      have hyb := hys.bools
      subst hyb
      k_steps
      exact ⟨rfl, _, _, rfl, by with_reducible assumption, fun p hp => (show News _ _ _ (_ :: _) from by with_reducible assumption) p (List.mem_cons_of_mem _ hp)⟩
    k_steps
    unfold Stop
    refine cut_same F10 N10 (fun hm => ?i2) (fun h11 tk11 F11 N11 => ?_)
    case i2 =>
      k_steps
      unfold Stop
      refine LCg.CompSrc.ledger (by rfl) (by with_reducible assumption) (by with_reducible assumption) (List.mem_cons_of_mem _ (List.mem_cons_self ..)) (by rw [List.size_toArray, hI6.length]; exact Nat.le_trans hL6 (by decide)) (fun g => ?_)
      refine comp_list (fun k y => y = .bool (inTwo k)) hI6 (fun k t I oI C oC D m₂ ys h tk E' hk hC hx F N off ne => ?turnB) (fun ys hys => ?finB)
      case turnB =>
        k_steps
        unfold Stop
        exact LCg.CompEnd.intro F N _ (fun p hp => hp) off (.inr ⟨_, List.mem_cons_of_mem _ (List.mem_cons_self ..), rfl, _, rfl⟩) ⟨rfl, rfl⟩
      have hyb := hys.bools
      subst hyb
      by_cases hT : done.any inTwo = true
      · have hT' : (!(done.any fun k => inTwo k == true)) = false := by rw [any_any, hT]; rfl
        k_steps
        exact ⟨rfl, _, _, rfl, by with_reducible assumption, fun p hp => (show News _ _ _ (_ :: _) from by with_reducible assumption) p (List.mem_cons_of_mem _ hp)⟩
      · have hT1 : done.any inTwo = false := by cases h : done.any inTwo; rfl; exact absurd h hT
        have hT' : (!(done.any fun k => inTwo k == true)) = true := by rw [any_any, hT1]; rfl
        have q1 : bV ≤ 2 * aV := by rw [haV, hbV]; exact ok.q1 hT1
        have e2 := eq_all (x := bV) (y := 2 * aV) (ks := done) (p := inDouble) (by rw [haV, hbV]; exact ok.q2 hT1)
        k_steps
        unfold Stop
        refine LCg.CompSrc.ledger (by rfl) (by with_reducible assumption) (by with_reducible assumption) (List.mem_cons_of_mem _ (List.mem_cons_of_mem _ (List.mem_cons_self ..))) (by rw [List.size_toArray, hI6.length]; exact Nat.le_trans hL6 (by decide)) (fun g => ?_)
        refine comp_list (fun k y => y = .bool (inDouble k)) hI6 (fun k t I oI C oC D m₂ ys h tk E' hk hC hx F N off ne => ?turnC) (fun ys hys => ?finC)
        case turnC =>
          k_steps
          unfold Stop
          exact LCg.CompEnd.intro F N _ (fun p hp => hp) off (.inr ⟨_, List.mem_cons_of_mem _ (List.mem_cons_of_mem _ (List.mem_cons_self ..)), rfl, _, rfl⟩) ⟨rfl, rfl⟩
        have hyb := hys.bools
        subst hyb
        k_steps
        exact ⟨rfl, _, _, rfl, by with_reducible assumption, fun p hp => (show News _ _ _ (_ :: _ :: _) from by with_reducible assumption) p (List.mem_cons_of_mem _ (List.mem_cons_of_mem _ hp))⟩
    k_steps
    unfold Stop
    have r1 : aV ≤ 4 * bV := by rw [haV, hbV]; exact ok.r1
    have e3 := eq_all (x := 4 * bV) (y := aV) (ks := done) (p := quarter) (by rw [haV, hbV]; exact ⟨fun e => ok.r2.mp e.symm, fun e => (ok.r2.mpr e).symm⟩)
    refine cut_same F11 N11 (fun hm => ?i3) (fun h12 tk12 F12 N12 => ?_)
    case i3 =>
      k_steps
      unfold Stop
      refine LCg.CompSrc.ledger (by rfl) (by with_reducible assumption) (by with_reducible assumption) (List.mem_cons_of_mem _ (List.mem_cons_self ..)) (by rw [List.size_toArray, hI6.length]; exact Nat.le_trans hL6 (by decide)) (fun g => ?_)
      refine comp_list (fun k y => y = .bool (quarter k)) hI6 (fun k t I oI C oC D m₂ ys h tk E' hk hC hx F N off ne => ?turnD) (fun ys hys => ?finD)
      case turnD =>
        k_steps
        unfold Stop
        exact LCg.CompEnd.intro (by with_reducible assumption) (by with_reducible assumption) _ (fun p hp => hp) off (.inr ⟨_, List.mem_cons_of_mem _ (List.mem_cons_self ..), rfl, _, rfl⟩) ⟨rfl, rfl⟩
      have hyb := hys.bools
      subst hyb
      k_steps
      exact ⟨rfl, _, _, rfl, by with_reducible assumption, fun p hp => (show News _ _ _ (_ :: _) from by with_reducible assumption) p (List.mem_cons_of_mem _ hp)⟩
    k_steps
    unfold Stop
    refine LCg.CompSrc.ledger (by rfl) (by with_reducible assumption) (by with_reducible assumption) (List.mem_cons_of_mem _ (List.mem_cons_self ..)) (by rw [List.size_toArray, hI6.length]; exact Nat.le_trans hL6 (by decide)) (fun g => ?_)
    refine comp_list (fun k y => y = .bool ((fun k : Int => k == 13254) k)) hI6 (fun k t I oI C oC D m₂ ys h tk E' hk hC hx F N off ne => ?turnE) (fun ys hys => ?finE)
    case turnE =>
      k_steps
      unfold Stop
      exact LCg.CompEnd.intro F N _ (fun p hp => hp) off (.inr ⟨_, List.mem_cons_of_mem _ (List.mem_cons_self ..), rfl, _, rfl⟩) ⟨rfl, rfl⟩
    have hyb := hys.bools
    subst hyb
    k_steps
    unfold Stop
    have hw : done.all (fun k => k == 13254) = done.all (fun c => 13254 == c) := by congr 1; funext k; exact BEq.comm
    have s1 : (done.length : Int) ≤ ((done.flatMap foldI).length : Int) := ok.s1
    have s2 : ((done.flatMap foldI).length : Int) ≤ 4 * (done.length : Int) := ok.s2
    have e4 := eq_all (x := ((done.flatMap foldI).length : Int)) (y := 4 * (done.length : Int)) (ks := done) (p := fun k => k == 13254) (by rw [hw]; exact ok.s3)
    refine cut_same (by with_reducible assumption) (by with_reducible assumption) (fun hm => ?i4) (fun h13 tk13 F13 N13 => ?_)
    case i4 =>
      k_steps
      exact ⟨rfl, _, _, rfl, by with_reducible assumption, by with_reducible assumption⟩
    k_steps
    unfold Stop
    refine' CT.top (units_ct _ fD us2 (done.flatMap foldI) 0 hI2) F13 ?c3 N13 ?c5 ?cK ?cd ?cu ⟨List.mem_cons_of_mem _ (List.mem_cons_self ..), ?cR⟩
    case c3 => k_asm
    case c5 => k_asm
    case cK => exact rfl
    case cd => first | ktr_room | decide +kernel
    case cu => first | ktr_units | decide +kernel
    intro uB tuB huB tkuB euB FuB NuB
    k_sweep
    k_steps
    unfold Stop
    refine' CT.top (units_ct _ D6 us6 done cap6 hI6) (by with_reducible assumption) ?d3 (by with_reducible assumption) ?d5 ?dK ?dd ?du ⟨List.mem_cons_of_mem _ (List.mem_cons_of_mem _ (List.mem_cons_self ..)), ?dR⟩
    case d3 => k_asm
    case d5 => k_asm
    case dK => exact rfl
    case dd => first | ktr_room | decide +kernel
    case du => first | ktr_units | decide +kernel
    intro uA tuA huA tkuA euA FuA NuA
    k_sweep
    have t1 : uB ≤ 4 * uA := by rw [euB, euA]; exact ok.t1
    k_steps
    unfold Stop
    refine' CT.top (units_ct _ fD us2 (done.flatMap foldI) 0 hI2) (by with_reducible assumption) ?e3 (by with_reducible assumption) ?e5 ?eK ?ed ?eu ⟨List.mem_cons_of_mem _ (List.mem_cons_self ..), ?eR⟩
    case e3 => k_asm
    case e5 => k_asm
    case eK => exact rfl
    case ed => first | ktr_room | decide +kernel
    case eu => first | ktr_units | decide +kernel
    intro uC tuC huC tkuC euC FuC NuC
    k_sweep
    k_steps
    unfold Stop
    refine' CT.top (units_ct _ D6 us6 done cap6 hI6) (by with_reducible assumption) ?f3 (by with_reducible assumption) ?f5 ?fK ?fd ?fu ⟨List.mem_cons_of_mem _ (List.mem_cons_of_mem _ (List.mem_cons_self ..)), ?fR⟩
    case f3 => k_asm
    case f5 => k_asm
    case fK => exact rfl
    case fd => first | ktr_room | decide +kernel
    case fu => first | ktr_units | decide +kernel
    intro uD tuD huD tkuD euD FuD NuD
    k_sweep
    have t2 := eq_all (x := uC) (y := 4 * uD) (ks := done) (p := fun k => k == 13254) (by rw [hw, euC, euD]; exact ok.t2)
    k_steps)


