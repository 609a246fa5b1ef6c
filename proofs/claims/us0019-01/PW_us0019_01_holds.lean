import PyProof.Rows.All
import PyProof.StrLawsIn
import PyProof.Rows.StrInSeq3
import PyProof.Rows.SeqMore2
import PyProof.Rows.RegReprOcc
import PyProof.Rows.SetFrom
import KE.KLcTest
import KE.KDictIter
import KE.KDictList
import KE.KDictSum
import KE.KLcPair
import KE.KTryDeepN
import Wide.FinOn
import OpenK.AllK
import Wide.All
import Lean
import PySem.Challenge.RW_us0019_01
set_option Elab.async false
set_option compiler.extract_closed false
open PySem PySem.W PySem.Calls PyProof.Rows PySem.Spec
namespace Mine
section
set_option maxRecDepth 100000 in
set_option maxHeartbeats 0 in
theorem law_said : PySem.Challenge.rw_us0019_01.wellSaid = true := by
  rw [PySem.W.Fast.te9446332074065402090]
  delta PySem.W.Fast.tw9446332074065402090
  repeat' first
    | with_reducible refine PySem.W.look_both ?_ ?_
    | delta PySem.W.Fast.tw17960256430627541270
    | delta PySem.W.Fast.tw2436336058641802641
    | delta PySem.W.Fast.tw12908688711261696721
  all_goals decide +kernel
end
local macro_rules | `(tactic| omega) => `(tactic| first | lia | omega (config := {}))
section
theorem pack {P : Prop} (h : ∀ G : Prop, (P → G) → G) : P := h P id
theorem fold_eq {α : Type} (x : α) {P : Prop} (h : ∀ R : α, R = x → P) : P := h x rfl
end
section
open PySem PySem.W PySem.Calls PyProof.Rows
set_option tactic.hygienic false
noncomputable def CodeRuns (p : Program) (w : World) (n₀ : Nat) (ann : Option Value) (n : Nat) (c : Code) (s : Shared) (f : Flow) (s' : Shared) : Prop :=
  ∀ (q : Pos) (k : Result → Sem Fin) (h : Option Value) (g : Bool) (l : List Value) (cd : Code) (p₀ : Pos) (kept : List Value) (rest : List Frame), rest ≠ [] →
    segGo treeTable p w n₀ ann 1 n s ⟨denote treeTable c, c, q, .ret k h g l cd p₀ kept :: rest⟩ = some (s', ⟨k (.ok f), cd, p₀, rest⟩)
noncomputable def Runs (p : Program) (w : World) (n₀ : Nat) (ann : Option Value) (b : Nat) {α : Type} (m : Sem α) (s : Shared) (q : Pos) (a : α) (s' : Shared) (q' : Pos) : Prop :=
  ∃ n, n ≤ b ∧ ∀ (K : α → Sem Fin) (H : Value → Sem Fin) (gd : Bool → Bool) (lv : List Value → List Value) (code : Code) (st : List Frame), st ≠ [] →
      segGo treeTable p w n₀ ann 1 n s ⟨m.wrap K H gd lv, code, q, st⟩ = some (s', ⟨K a, code, q', st⟩)
section
variable {p : Program} {w : World} {n₀ : Nat} {ann : Option Value} {α β : Type} {b b₁ b₂ B : Nat}
theorem segGo_add {b : Nat} {n m : Nat} {s s' : Shared} {t t' : Thread} (h : segGo treeTable p w n₀ ann b n s t = some (s', t')) : segGo treeTable p w n₀ ann b (n + m) s t = segGo treeTable p w n₀ ann b m s' t' := by
  induction n generalizing s t with
  | zero => obtain ⟨rfl, rfl⟩ : s = s' ∧ t = t' := by simpa [segGo] using h
            rw [Nat.zero_add]
  | succ n ih =>
    rw [show n + 1 + m = n + m + 1 by omega]
    unfold segGo at h
    conv => lhs; unfold segGo
    cases he : endAt b t with
    | some x => rw [he] at h; cases h
    | none =>
      rw [he] at h
      cases hk : stepOk n₀ ann t with
      | false => rw [hk] at h; cases h
      | true =>
        rw [hk] at h
        cases hs : step (denote treeTable) p w s t with
        | halt o s₂ => rw [hs] at h; cases h
        | go s₂ t₂ => rw [hs] at h; exact ih h
theorem segGo_one {b n : Nat} {s s₂ : Shared} {t t₂ : Thread} (h1 : endAt b t = none) (h2 : stepOk n₀ ann t = true) (h3 : step (denote treeTable) p w s t = .go s₂ t₂) :
    segGo treeTable p w n₀ ann b (n + 1) s t = segGo treeTable p w n₀ ann b n s₂ t₂ := by
  show (match endAt b t with | some _ => none | none => _) = _
  rw [h1]
  show (match stepOk n₀ ann t with | false => none | true => _) = _
  rw [h2]
  show (match step (denote treeTable) p w s t with | .go s' t' => _ | .halt _ _ => none) = _
  rw [h3]
theorem Runs.go {m : Sem α} {s s' : Shared} {q q' : Pos} {a : α} (h : Runs p w n₀ ann b m s q a s' q') :
    ∃ n, n ≤ b ∧ ∀ (K : α → Sem Fin) (H : Value → Sem Fin) (gd : Bool → Bool) (lv : List Value → List Value) (code : Code) (st : List Frame), st ≠ [] →
      segGo treeTable p w n₀ ann 1 n s ⟨m.wrap K H gd lv, code, q, st⟩ = some (s', ⟨K a, code, q', st⟩) := h
theorem Runs.one {m m' : Sem α} {s s₁ s' : Shared} {q q₁ q' : Pos} {a : α} (h : Runs p w n₀ ann b m' s₁ q₁ a s' q')
    (hc : ∀ (K : α → Sem Fin) (H : Value → Sem Fin) gd lv code st, endAt 1 ⟨m.wrap K H gd lv, code, q, st⟩ = none)
    (ho : ∀ (K : α → Sem Fin) (H : Value → Sem Fin) gd lv code st, stepOk n₀ ann ⟨m.wrap K H gd lv, code, q, st⟩ = true)
    (hs : ∀ (K : α → Sem Fin) (H : Value → Sem Fin) gd lv code st, step (denote treeTable) p w s ⟨m.wrap K H gd lv, code, q, st⟩ = .go s₁ ⟨m'.wrap K H gd lv, code, q₁, st⟩) : Runs p w n₀ ann (b + 1) m s q a s' q' := by
  obtain ⟨n, hle, ih⟩ := h
  exact ⟨n + 1, Nat.succ_le_succ hle, fun K H gd lv code st hst => (segGo_one (hc K H gd lv code st) (ho K H gd lv code st) (hs K H gd lv code st)).trans (ih K H gd lv code st hst)⟩
section
variable {a : α} {s s' : Shared} {q q' : Pos}
theorem Runs.pure : Runs p w n₀ ann b (.pure a) s q a s q := ⟨0, Nat.zero_le _, fun _ _ _ _ _ _ _ => rfl⟩
theorem Runs.rule {t : String} {k : Unit → Sem α} (h : Runs p w n₀ ann b (k ()) s q a s' q') : Runs p w n₀ ann (b + 1) (.rule t k) s q a s' q' := h.one (fun _ _ _ _ _ st => by unfold endAt; dsimp only; cases (st.length == 1) <;> rfl) (fun _ _ _ _ _ _ => rfl) fun _ _ _ _ _ _ => rfl
theorem Runs.at {r : Pos} {k : Unit → Sem α} (h : Runs p w n₀ ann b (k ()) s r a s' q') : Runs p w n₀ ann (b + 1) (.at r k) s q a s' q' := h.one (fun _ _ _ _ _ st => by unfold endAt; dsimp only; cases (st.length == 1) <;> rfl) (fun _ _ _ _ _ _ => rfl) fun _ _ _ _ _ _ => rfl
theorem Runs.point {l : List Value} {k : Unit → Sem α} (h : Runs p w n₀ ann b (k ()) s q a s' q') : Runs p w n₀ ann (b + 1) (.point l k) s q a s' q' := h.one (fun _ _ _ _ _ st => by unfold endAt; dsimp only; cases (st.length == 1) <;> rfl) (fun _ _ _ _ _ _ => rfl) fun _ _ _ _ _ _ => rfl
theorem Runs.load {x : Addr} {pt : Option Value} {o : Obj} {k : Obj → Sem α} (e : s.heap.get? x = some o) (h : Runs p w n₀ ann b (k o) s q a s' q') : Runs p w n₀ ann (b + 1) (.load x pt k) s q a s' q' :=
  h.one (fun _ _ _ _ _ st => by unfold endAt; dsimp only; cases (st.length == 1) <;> rfl) (fun _ _ _ _ _ _ => rfl) fun _ _ _ _ _ _ => by simp only [Sem.wrap, step, e]
theorem Runs.update {x : Addr} {pt : Option Value} {f : Obj → Obj} {k : Unit → Sem α} (e : (s.heap.get? x).isSome = true) (hx : Nat.ble n₀ x = true)
    (h : Runs p w n₀ ann b (k ()) { s with heap := s.heap.update x f } q a s' q') : Runs p w n₀ ann (b + 1) (.update x pt f k) s q a s' q' :=
  h.one (fun _ _ _ _ _ st => by unfold endAt; dsimp only; cases (st.length == 1) <;> rfl) (fun _ _ _ _ _ _ => by simp only [Sem.wrap, stepOk, hx, Bool.true_or, Bool.and_true]; rfl) fun _ _ _ _ _ _ => by simp only [Sem.wrap, step, e, if_true]
theorem Runs.alloc {o : Obj} {k : Addr → Sem α} (h : Runs p w n₀ ann b (k s.heap.objs.size) { s with heap := s.heap.push o } q a s' q') : Runs p w n₀ ann (b + 1) (.alloc o k) s q a s' q' := h.one (fun _ _ _ _ _ st => by unfold endAt; dsimp only; cases (st.length == 1) <;> rfl) (fun _ _ _ _ _ _ => rfl) fun _ _ _ _ _ _ => rfl
theorem Runs.fresh {k : Tok → Sem α} (h : Runs p w n₀ ann b (k s.toks) { s with toks := s.toks + 1 } q a s' q') : Runs p w n₀ ann (b + 1) (.fresh k) s q a s' q' := h.one (fun _ _ _ _ _ st => by unfold endAt; dsimp only; cases (st.length == 1) <;> rfl) (fun _ _ _ _ _ _ => rfl) fun _ _ _ _ _ _ => rfl
theorem Runs.ask {k : Setting → Sem α} (h : Runs p w n₀ ann b (k ⟨p, w.params⟩) s q a s' q') : Runs p w n₀ ann (b + 1) (.ask k) s q a s' q' := h.one (fun _ _ _ _ _ st => by unfold endAt; dsimp only; cases (st.length == 1) <;> rfl) (fun _ _ _ _ _ _ => rfl) fun _ _ _ _ _ _ => rfl
theorem Runs.call {nc : Nat} {s₁ : Shared} {c : Code} {hd : Option Value} {g : Bool} {l : List Value} {k : Result → Sem α} {f : Flow} (hc : CodeRuns p w n₀ ann nc c s f s₁)
    (h : Runs p w n₀ ann b (k (.ok f)) s₁ q a s' q') : Runs p w n₀ ann (nc + b + 1) (.call c hd g l k) s q a s' q' := by
  obtain ⟨n, hle, ih⟩ := h
  refine ⟨(nc + n) + 1, Nat.succ_le_succ (Nat.add_le_add_left hle _), fun K H gd lv code st hst => (segGo_one (by unfold endAt; dsimp only; cases (st.length == 1) <;> rfl) rfl (by rfl)).trans ?_⟩
  rw [segGo_add (hc _ _ _ _ _ _ _ _ _ hst)]
  exact ih K H gd lv code st hst
end
theorem Runs.mono {m : Sem α} {s s' : Shared} {q q' : Pos} {a : α} (h : Runs p w n₀ ann b₁ m s q a s' q') (hb : b₁ ≤ b₂) : Runs p w n₀ ann b₂ m s q a s' q' := h.imp fun _ h => ⟨Nat.le_trans h.1 hb, h.2⟩
theorem Runs.bindB {m : Sem α} {f : α → Sem β} {s s' s'' : Shared} {q q' q'' : Pos} {a : α} {b : β} (h : Runs p w n₀ ann b₁ m s q a s' q') (h' : Runs p w n₀ ann b₂ (f a) s' q' b s'' q'') :
    Runs p w n₀ ann (b₁ + b₂) (m >>= f) s q b s'' q'' := by
  obtain ⟨n₁, l₁, h⟩ := h
  obtain ⟨n₂, l₂, h'⟩ := h'
  refine ⟨n₁ + n₂, Nat.add_le_add l₁ l₂, fun K H gd lv code st hst => ?_⟩
  rw [Sem.bind_eq_wrap', Sem.wrap_wrap, segGo_add (h _ _ _ _ code st hst)]
  exact h' K H gd lv code st hst
theorem Runs.bind {m : Sem α} {f : α → Sem β} {s s' s'' : Shared} {q q' q'' : Pos} {a : α} {b : β} (h : Runs p w n₀ ann b₁ m s q a s' q') (h' : Runs p w n₀ ann (B - b₁) (f a) s' q' b s'' q'') (hB : b₁ ≤ B := by omega) :
    Runs p w n₀ ann B (m >>= f) s q b s'' q'' := (Runs.bindB h h').mono (Nat.le_of_eq (Nat.add_sub_cancel' hB))
theorem Runs.keep {m : Sem α} {vs : List Value} {s s' : Shared} {q q' : Pos} {a : α} (h : Runs p w n₀ ann b m s q a s' q') : Runs p w n₀ ann b (m.keep vs) s q a s' q' :=
  h.imp fun _ h => ⟨h.1, fun K H gd lv code st hst => by rw [Sem.keep_eq_wrap, Sem.wrap_wrap]; exact h.2 _ _ _ _ code st hst⟩
theorem Runs.holding {m : Sem α} {vs : List Value} {s s' : Shared} {q q' : Pos} {a : α} (h : Runs p w n₀ ann b m s q a s' q') : Runs p w n₀ ann b (holding vs m) s q a s' q' := by
  unfold PySem.holding
  split
  · exact h
  · exact h.keep
theorem Runs.onRaise {m : Sem α} {g : Value → Sem Unit} {s s' : Shared} {q q' : Pos} {a : α} (h : Runs p w n₀ ann b m s q a s' q') : Runs p w n₀ ann b (m.onRaise g) s q a s' q' :=
  h.imp fun _ h => ⟨h.1, fun K H gd lv code st hst => by rw [Sem.onRaise_eq_wrap, Sem.wrap_wrap]; exact h.2 _ _ _ _ code st hst⟩
theorem Runs.tryCatch {m : Sem α} {g : Value → Sem α} {s s' : Shared} {q q' : Pos} {a : α} (h : Runs p w n₀ ann b m s q a s' q') : Runs p w n₀ ann b (m.tryCatch g) s q a s' q' :=
  h.imp fun _ h => ⟨h.1, fun K H gd lv code st hst => by rw [Sem.tryCatch_eq_wrap, Sem.wrap_wrap]; exact h.2 _ _ _ _ code st hst⟩
end
end
section
noncomputable def dobj (es : List DictEntry) (n : Nat) : Obj := { cls := .type "dict", data := .dict es.toArray n }
section
variable {p : Program} {w : World} {n₀ : Nat} {ann : Option Value} {s : Shared} {q : Pos} {d : Addr} {es : List DictEntry} {n : Nat} {pt : Option Value}
theorem runs_entries (h : s.heap.get? d = some (dobj es n)) : Runs p w n₀ ann 1 (dictEntries d pt) s q es.toArray s q := .load h .pure
theorem runs_epoch (h : s.heap.get? d = some (dobj es n)) : Runs p w n₀ ann 1 (dictEpoch d pt) s q n s q := .load h .pure
theorem places_none {es : List DictEntry} {h : Int} (hn : ∀ e ∈ es, e.hash ≠ h) : placesWithHash es.toArray.size (fun i => es.toArray[i]?.map (·.hash)) h = [] := by
  unfold placesWithHash
  rw [List.filter_eq_nil_iff]
  intro i hi hb
  dsimp only at hb
  cases he : es.toArray[i]? with
  | none => rw [he] at hb; simp at hb
  | some e =>
    rw [he] at hb
    have hm : e ∈ es := by
      rw [List.getElem?_toArray] at he
      exact List.mem_of_getElem? he
    have : e.hash = h := by simpa using hb
    exact hn e hm this
theorem runs_find {k h : Int} {t : Tok} (hd : s.heap.get? d = some (dobj es n)) (hn : ∀ e ∈ es, e.hash ≠ h) : Runs p w n₀ ann 1 (dictFind d (.int k t) h) s q none s q := by
  unfold dictFind
  refine Runs.holding (Runs.bind (runs_entries hd) ?_)
  dsimp only
  rw [places_none hn]
  exact Runs.pure
theorem runs_updateKeys {f : Array DictEntry → Array DictEntry} (hd : s.heap.get? d = some (dobj es n)) (hx : Nat.ble n₀ d = true) (hl : (f es.toArray).size ≤ sizeLine + 1)
    {H : Heap} (hH : s.heap.update d (Obj.mapDictKeys f) = H) (hg : H.get? d = some ((dobj es n).mapDictKeys f)) :
    Runs p w n₀ ann 3 (updateDictKeys d f pt) s q () { s with heap := H } q := by
  unfold updateDictKeys
  refine Runs.bind (b₁ := 1) (a := dobj es n) (.load (b := 0) hd .pure) ?_
  dsimp only [dobj]
  refine Runs.bind (b₁ := 1) (a := ()) (s' := { s with heap := H }) (q' := q) (.update (b := 0) (by rw [hd]; rfl) hx (by rw [hH]; exact .pure)) ?_
  refine Runs.bind (b₁ := 1) (a := (dobj es n).mapDictKeys f) (.load (b := 0) hg .pure) ?_
  have : ((dobj es n).mapDictKeys f).data.pastItsLine = none := by
    show (if (f es.toArray).size > sizeLine + 1 then _ else _) = none
    rw [if_neg (by omega)]
  rw [this]
  exact .pure
noncomputable def ext (h : Heap) (l : List Obj) : Heap := ⟨h.objs ++ l.toArray, h.life⟩
theorem ext_nil (h : Heap) : ext h [] = h := by unfold ext; simp
theorem ext_push (h : Heap) (l : List Obj) (o : Obj) : (ext h l).push o = ext h (l ++ [o]) := by
  show Heap.mk _ _ = Heap.mk _ _
  congr 1
  apply Array.toList_inj.mp
  simp
theorem ext_size (h : Heap) (l : List Obj) : (ext h l).objs.size = h.objs.size + l.length := by unfold ext; simp
theorem ext_at (h : Heap) (l : List Obj) (i : Nat) : (ext h l).objs[h.objs.size + i]? = l[i]? := by
  unfold ext
  rw [Array.getElem?_append_right (by omega)]
  simp
theorem ext_get {h : Heap} {l : List Obj} {i : Nat} {es : List DictEntry} {n : Nat} (e : l[i]? = some (dobj es n)) : (ext h l).get? (h.objs.size + i) = some (dobj es n) := by
  unfold Heap.get?
  rw [ext_at, e]
  rfl
theorem ext_update (h : Heap) (l : List Obj) (i : Nat) (f : Obj → Obj) : (ext h l).update (h.objs.size + i) f = ext h (l.modify i f) := by
  show Heap.mk ((h.objs ++ l.toArray).modify _ _) _ = Heap.mk _ _
  congr 1
  apply Array.ext_getElem?
  intro j
  rw [Array.getElem?_modify]
  by_cases hj : j < h.objs.size
  · rw [Array.getElem?_append_left hj, Array.getElem?_append_left hj, if_neg (by omega)]
  · rw [Array.getElem?_append_right (by omega), Array.getElem?_append_right (by omega)]
    simp only [List.getElem?_toArray, List.getElem?_modify]
    by_cases e : h.objs.size + i = j
    · subst e; simp
    · rw [if_neg e]; have e' : ¬ i = j - h.objs.size := by omega
      simp [e']
theorem hash_code (k : Int) (t : Tok) : CodeRuns p w n₀ ann 3 (.call (.builtin "int.__hash__") ⟨[.int k t], []⟩) s (.ret (.int (rawHash k) s.toks)) { s with toks := s.toks + 1 } := by
  have e1 : denote treeTable (.call (.builtin "int.__hash__") ⟨[.int k t], []⟩) = (.pure (.again (.builtin "int.__hash__" ⟨[.int k t], []⟩)) : Sem PySem.Fin) := by
    kernel_rfl
  have e2 : denote treeTable (.builtin "int.__hash__" ⟨[.int k t], []⟩) = (.fresh fun t => .pure (.done (.ret (.int (rawHash k) t))) : Sem PySem.Fin) := by
    kernel_rfl
  intro q kk h g l cd p₀ kept rest hr
  have hne : ∀ f : Frame, ((f :: rest).length == 1) = false := fun f => by
    cases rest with
    | nil => exact absurd rfl hr
    | cons => simp
  obtain ⟨heap, gens, drawn, toks, os⟩ := s
  rw [e1]
  refine (segGo_one (by unfold endAt; rw [hne]) (by kernel_rfl) step_again).trans ?_
  rw [e2]
  refine (segGo_one (by unfold endAt; rw [hne]) rfl rfl).trans ?_
  refine (segGo_one (by unfold endAt; rw [hne]) rfl rfl).trans ?_
  rfl
theorem runs_hash (k : Int) (t : Tok) : Runs p w n₀ ann 5 (pyHash (.int k t)) s q (hashInt k) { s with toks := s.toks + 1 } q := by
  have hr := rawHash_range k
  have e1 : specialOf (.int k t) "__hash__" = pure (some (.builtin "int.__hash__")) := slot_int_hash.lookup
  have e2 : bindSpecial (.builtin "int.__hash__") (.int k t) = pure (.builtin "int.__hash__", [.int k t]) := slot_int_hash.bind _
  have hc : Runs p w n₀ ann 4 (call (.builtin "int.__hash__") [.int k t]) s q (.int (rawHash k) s.toks) { s with toks := s.toks + 1 } q := .call (b := 0) (hash_code k t) .pure
  have hb : Runs p w n₀ ann 1 (bindSpecialIfBound? (.int k t) "__hash__") s q (some (.builtin "int.__hash__", [.int k t])) s q := by
    unfold bindSpecialIfBound?
    rw [e1]
    refine Runs.bind (b₁ := 0) .pure ?_
    dsimp only
    refine Runs.bind (b₁ := 1) (.ask (b := 0) .pure) ?_
    rw [e2]
    split
    · exact Runs.bind (b₁ := 0) .pure .pure
    · exact Runs.tryCatch (Runs.bind (b₁ := 0) .pure .pure)
  show Runs p w n₀ ann _ (pyHashByItsType (.int k t)) _ _ _ _ _
  unfold pyHashByItsType
  refine Runs.bind (b₁ := 0) (a := ()) (s' := s) (q' := q) .pure ?_
  rw [e1]
  refine Runs.bind (b₁ := 0) .pure ?_
  refine Runs.bind (b₁ := 0) .pure ?_
  unfold callSpecialIfBoundUnlessNone?
  refine Runs.bind (b₁ := 5) (a := some (.int (rawHash k) s.toks)) (Runs.holding (Runs.bind hb (Runs.bind hc .pure))) ?_
  show Runs p w n₀ ann _ (if (decide (-(2 : Int) ^ 63 ≤ rawHash k) && decide (rawHash k < 2 ^ 63)) = true then _ else _) _ _ _ _ _
  rw [if_pos (by rw [decide_eq_true hr.1, decide_eq_true hr.2]; rfl)]
  exact .pure
theorem runs_set {k : Int} {t : Tok} {v : Value} (hd : s.heap.get? d = some (dobj es n)) (hx : Nat.ble n₀ d = true) (hn : ∀ e ∈ es, e.hash ≠ hashInt k) (hl : es.length ≤ sizeLine)
    {H : Heap} (hH : s.heap.update d (Obj.mapDictKeys (·.push ⟨hashInt k, .int k t, v⟩)) = H) (hg : H.get? d = some (dobj (es ++ [⟨hashInt k, .int k t, v⟩]) (n + 1))) :
    Runs p w n₀ ann 10 (dictSet d (.int k t) v) s q () { s with heap := H, toks := s.toks + 1 } q := by
  unfold dictSet
  refine Runs.holding (Runs.bind (runs_hash k t) ?_)
  unfold dictSetHashed
  refine Runs.holding (Runs.bind (runs_find hd hn) ?_)
  refine Runs.bind (b₁ := 1) (a := ()) (.rule (b := 0) .pure) ?_
  have e : (dobj es n).mapDictKeys (·.push ⟨hashInt k, .int k t, v⟩) = dobj (es ++ [⟨hashInt k, .int k t, v⟩]) (n + 1) := by
    unfold dobj Obj.mapDictKeys
    simp
  refine Runs.mono (b₁ := 3) ?_ (by omega)
  exact runs_updateKeys (s := { s with toks := s.toks + 1 }) hd hx (by simpa using hl) hH (by rw [e]; exact hg)
theorem runs_put {k h : Int} {t : Tok} {v : Value} (hd : s.heap.get? d = some (dobj es n)) (hx : Nat.ble n₀ d = true) (hn : ∀ e ∈ es, e.hash ≠ h) (hl : es.length ≤ sizeLine)
    {H : Heap} (hH : s.heap.update d (Obj.mapDictKeys (·.push ⟨h, .int k t, v⟩)) = H) (hg : H.get? d = some (dobj (es ++ [⟨h, .int k t, v⟩]) (n + 1))) :
    Runs p w n₀ ann 4 (dictPut d h (.int k t) v) s q () { s with heap := H } q := by
  unfold dictPut
  refine Runs.bind (runs_find hd hn) ?_
  have e : (dobj es n).mapDictKeys (·.push ⟨h, .int k t, v⟩) = dobj (es ++ [⟨h, .int k t, v⟩]) (n + 1) := by
    unfold dobj Obj.mapDictKeys
    simp
  refine Runs.mono (b₁ := 3) ?_ (by omega)
  exact runs_updateKeys hd hx (by simpa using hl) hH (by rw [e]; exact hg)
end
end
section
set_option tactic.hygienic false
noncomputable def kent (k : Int) (x : PySem.Str) (t u : Nat) : DictEntry := ⟨hashInt k, .int k t, .str x u⟩
noncomputable def ents3 : Nat → List (Int × PySem.Str) → List DictEntry
  | _, [] => []
  | t, (k, x) :: r => kent k x t (t + 1) :: ents3 (t + 3) r
noncomputable def ents2 : Nat → List (Int × PySem.Str) → List DictEntry
  | _, [] => []
  | t, (k, x) :: r => kent k x t (t + 1) :: ents2 (t + 2) r
noncomputable def hashes (c : List (Int × PySem.Str)) : List Int := c.map fun y => hashInt y.1
theorem ents3_hash : ∀ (t : Nat) (c : List (Int × PySem.Str)), (ents3 t c).map (·.hash) = hashes c
  | _, [] => rfl
  | t, (k, x) :: r => by show hashInt k :: (ents3 (t + 3) r).map (·.hash) = hashInt k :: hashes r; rw [ents3_hash]
theorem ents2_hash : ∀ (t : Nat) (c : List (Int × PySem.Str)), (ents2 t c).map (·.hash) = hashes c
  | _, [] => rfl
  | t, (k, x) :: r => by show hashInt k :: (ents2 (t + 2) r).map (·.hash) = hashInt k :: hashes r; rw [ents2_hash]
theorem ents3_length : ∀ (t : Nat) (c : List (Int × PySem.Str)), (ents3 t c).length = c.length
  | _, [] => rfl
  | t, (k, x) :: r => by show (ents3 (t + 3) r).length + 1 = r.length + 1; rw [ents3_length]
theorem ents2_length : ∀ (t : Nat) (c : List (Int × PySem.Str)), (ents2 t c).length = c.length
  | _, [] => rfl
  | t, (k, x) :: r => by show (ents2 (t + 2) r).length + 1 = r.length + 1; rw [ents2_length]
noncomputable def item (q : Pos) (y : Int × PySem.Str) : Sem Value × Sem Value := (mkInt y.1, do let v ← mkText y.2; standAt q; pure v)
theorem modify_set {α : Type} {L : List α} {i : Nat} {o : α} (f : α → α) (e : L[i]? = some o) : L.modify i f = L.set i (f o) := by
  apply List.ext_getElem?
  intro j
  rw [List.getElem?_modify, List.getElem?_set]
  by_cases h : i = j
  · subst h
    have hl : i < L.length := by
      rcases Nat.lt_or_ge i L.length with h | h
      · exact h
      · rw [List.getElem?_eq_none h] at e; cases e
    rw [e]
    simp [hl]
  · simp [h]
section
variable {p : Program} {w : World} {n₀ : Nat} {ann : Option Value} {q : Pos}
noncomputable def st (s : Shared) (L : List Obj) (t : Nat) : Shared := { s with heap := ext s.heap L, toks := t }
variable {s : Shared} {L : List Obj} {i : Nat} {es : List DictEntry} {n t : Nat}
theorem get_lt {o : Obj} (e : L[i]? = some o) : i < L.length := by
  rcases Nat.lt_or_ge i L.length with h | h
  · exact h
  · rw [List.getElem?_eq_none h] at e; cases e
theorem st_set {k : Int} {tk : Tok} {v : Value} (e : L[i]? = some (dobj es n)) (hx : n₀ ≤ s.heap.objs.size) (hn : ∀ y ∈ es, y.hash ≠ hashInt k) (hl : es.length ≤ sizeLine) :
    Runs p w n₀ ann 10 (dictSet (s.heap.objs.size + i) (.int k tk) v) (st s L t) q () (st s (L.set i (dobj (es ++ [⟨hashInt k, .int k tk, v⟩]) (n + 1))) (t + 1)) q := by
  have em : (dobj es n).mapDictKeys (·.push ⟨hashInt k, .int k tk, v⟩) = dobj (es ++ [⟨hashInt k, .int k tk, v⟩]) (n + 1) := by
    unfold dobj Obj.mapDictKeys
    simp
  refine runs_set (s := st s L t) (es := es) (n := n) (ext_get e) (Nat.ble_eq_true_of_le (Nat.le_trans hx (Nat.le_add_right _ _))) hn hl (H := ext s.heap (L.set i (dobj (es ++ [⟨hashInt k, .int k tk, v⟩]) (n + 1)))) ?_ ?_
  · rw [← em, ← modify_set _ e]; exact ext_update _ _ _ _
  · exact ext_get (by rw [List.getElem?_set, if_pos rfl, if_pos (get_lt e)])
theorem st_put {k h : Int} {tk : Tok} {v : Value} (e : L[i]? = some (dobj es n)) (hx : n₀ ≤ s.heap.objs.size) (hn : ∀ y ∈ es, y.hash ≠ h) (hl : es.length ≤ sizeLine) :
    Runs p w n₀ ann 4 (dictPut (s.heap.objs.size + i) h (.int k tk) v) (st s L t) q () (st s (L.set i (dobj (es ++ [⟨h, .int k tk, v⟩]) (n + 1))) t) q := by
  have em : (dobj es n).mapDictKeys (·.push ⟨h, .int k tk, v⟩) = dobj (es ++ [⟨h, .int k tk, v⟩]) (n + 1) := by
    unfold dobj Obj.mapDictKeys
    simp
  refine runs_put (s := st s L t) (es := es) (n := n) (ext_get e) (Nat.ble_eq_true_of_le (Nat.le_trans hx (Nat.le_add_right _ _))) hn hl (H := ext s.heap (L.set i (dobj (es ++ [⟨h, .int k tk, v⟩]) (n + 1)))) ?_ ?_
  · rw [← em, ← modify_set _ e]; exact ext_update _ _ _ _
  · exact ext_get (by rw [List.getElem?_set, if_pos rfl, if_pos (get_lt e)])
theorem st_int (k : Int) : Runs p w n₀ ann 1 (mkInt k) (st s L t) q (.int k t) (st s L (t + 1)) q := .fresh (b := 0) .pure
theorem st_text (x : PySem.Str) : Runs p w n₀ ann 2 (do let v ← mkText x; standAt q; pure v) (st s L t) q (.str x t) (st s L (t + 1)) q := .fresh (b := 1) (.at (b := 0) .pure)
theorem sub_loop (hx : n₀ ≤ s.heap.objs.size) : ∀ (c : List (Int × PySem.Str)) (es : List DictEntry) (n t : Nat) (L : List Obj), L[i]? = some (dobj es n) → ((es.map (·.hash)) ++ hashes c).Nodup → es.length + c.length ≤ sizeLine →
    Runs p w n₀ ann (13 * c.length) (forIn (c.map (item q)) PUnit.unit fun (y : Sem Value × Sem Value) (_ : PUnit) => (do
        let kv ← y.1
        let vv ← holding [kv] y.2
        holding [kv, vv] (dictSet (s.heap.objs.size + i) kv vv)
        pure (ForInStep.yield PUnit.unit) : Sem (ForInStep PUnit))) (st s L t) q PUnit.unit (st s (L.set i (dobj (es ++ ents3 t c) (n + c.length))) (t + 3 * c.length)) q
  | [], es, n, t, L, e, _, _ => by
    have : L.set i (dobj (es ++ ents3 t []) (n + ([] : List (Int × PySem.Str)).length)) = L := by
      show L.set i (dobj (es ++ []) n) = L
      rw [List.append_nil]
      apply List.ext_getElem?
      intro j
      rw [List.getElem?_set]
      by_cases h : i = j
      · subst h; rw [if_pos rfl, if_pos (get_lt e), e]
      · rw [if_neg h]
    rw [this]
    exact .pure
  | (k, x) :: c, es, n, t, L, e, hn, hl => by
    rw [List.map_cons, List.forIn_cons]
    have hn' : ∀ y ∈ es, y.hash ≠ hashInt k := fun y hy he => by
      rw [List.nodup_append] at hn
      exact hn.2.2 y.hash (List.mem_map.mpr ⟨y, hy, rfl⟩) (hashInt k) (by simp [hashes]) he
    have hl' : es.length ≤ sizeLine := by rw [List.length_cons] at hl; omega
    refine Runs.bind (b₁ := 13) (Runs.bind (st_int k) (Runs.bind (Runs.holding (st_text x)) (Runs.bind (Runs.holding (st_set e hx hn' hl')) .pure))) ?_ (by rw [List.length_cons]; omega)
    refine Runs.mono (b₁ := 13 * c.length) ?_ (by rw [List.length_cons]; omega)
    have := sub_loop hx c (es ++ [⟨hashInt k, .int k t, .str x (t + 1)⟩]) (n + 1) (t + 1 + 1 + 1) (L.set i (dobj (es ++ [⟨hashInt k, .int k t, .str x (t + 1)⟩]) (n + 1))) (by rw [List.getElem?_set, if_pos rfl, if_pos (get_lt e)])
      (by simpa [hashes, List.append_assoc] using hn) (by rw [List.length_append, List.length_cons] at *; simp only [List.length_nil] at *; omega)
    rw [List.set_set] at this
    rw [show es ++ ents3 t ((k, x) :: c) = es ++ [⟨hashInt k, .int k t, .str x (t + 1)⟩] ++ ents3 (t + 1 + 1 + 1) c by rw [List.append_assoc]; rfl,
      show n + ((k, x) :: c).length = n + 1 + c.length by rw [List.length_cons]; omega, show t + 3 * ((k, x) :: c).length = t + 1 + 1 + 1 + 3 * c.length by rw [List.length_cons]; omega]
    exact this
theorem st_alloc {o : Obj} : Runs p w n₀ ann 1 (alloc o) (st s L t) q (s.heap.objs.size + L.length) (st s (L ++ [o]) t) q := by
  have e : (st s L t).heap.push o = ext s.heap (L ++ [o]) := ext_push _ _ _
  have e' : (st s L t).heap.objs.size = s.heap.objs.size + L.length := ext_size _ _
  have := Runs.alloc (b := 0) (p := p) (w := w) (n₀ := n₀) (ann := ann) (s := st s L t) (q := q) (o := o) (k := Sem.pure) .pure
  rw [e, e'] at this
  exact this
theorem st_sub (hx : n₀ ≤ s.heap.objs.size) {c : List (Int × PySem.Str)} (h15 : 15 < c.length) (hn : (hashes c).Nodup) (hl : c.length ≤ sizeLine) :
    Runs p w n₀ ann (2 + 13 * c.length) (subDict (c.map (item q))) (st s L t) q (s.heap.objs.size + L.length) (st s (L ++ [dobj (ents3 t c) c.length]) (t + 3 * c.length)) q := by
  unfold subDict
  refine Runs.bind st_alloc (Runs.bind (b₁ := 1 + 13 * c.length) (a := ()) (Runs.holding ?_) .pure)
  rw [if_neg (by rw [List.length_map]; omega)]
  refine Runs.bind (b₁ := 1) (a := ()) (.rule (b := 0) .pure) ?_
  have := sub_loop (p := p) (w := w) (ann := ann) (q := q) hx c [] 0 t (i := L.length) (L ++ [dobj [] 0]) (by simp) (by simpa using hn) (by simpa using hl)
  rw [List.nil_append, Nat.zero_add, show (L ++ [dobj [] 0]).set L.length (dobj (ents3 t c) c.length) = L ++ [dobj (ents3 t c) c.length] by simp] at this
  exact Runs.bind this .pure
theorem pairs_loop : ∀ (c : List (Int × PySem.Str)) (t : Nat), Runs p w n₀ ann (3 * c.length) (evalPairs (c.map (item q))) (st s L t) q ((ents2 t c).map fun e => (e.key, e.val)) (st s L (t + 2 * c.length)) q
  | [], t => .pure
  | (k, x) :: c, t => by
    rw [List.map_cons]
    unfold evalPairs
    refine Runs.bind (st_int k) (Runs.bind (Runs.holding (st_text x)) (Runs.bind (Runs.holding (pairs_loop c (t + 1 + 1))) ?_ (by rw [List.length_cons]; omega)) (by rw [List.length_cons]; omega)) (by rw [List.length_cons]; omega)
    rw [show t + 2 * ((k, x) :: c).length = t + 1 + 1 + 2 * c.length by rw [List.length_cons]; omega]
    exact .pure
theorem store_loop (hx : n₀ ≤ s.heap.objs.size) : ∀ (c : List (Int × PySem.Str)) (u : Nat) (es : List DictEntry) (n t : Nat) (L : List Obj), L[i]? = some (dobj es n) → ((es.map (·.hash)) ++ hashes c).Nodup → es.length + c.length ≤ sizeLine →
    Runs p w n₀ ann (10 * c.length) (forIn ((ents2 u c).map fun e => (e.key, e.val)) PUnit.unit fun (y : Value × Value) (_ : PUnit) => (do
        dictSet (s.heap.objs.size + i) y.1 y.2
        pure (ForInStep.yield PUnit.unit) : Sem (ForInStep PUnit))) (st s L t) q PUnit.unit (st s (L.set i (dobj (es ++ ents2 u c) (n + c.length))) (t + c.length)) q
  | [], u, es, n, t, L, e, _, _ => by
    have : L.set i (dobj (es ++ ents2 u []) (n + ([] : List (Int × PySem.Str)).length)) = L := by
      show L.set i (dobj (es ++ []) n) = L
      rw [List.append_nil]
      apply List.ext_getElem?
      intro j
      rw [List.getElem?_set]
      by_cases h : i = j
      · subst h; rw [if_pos rfl, if_pos (get_lt e), e]
      · rw [if_neg h]
    rw [this]
    exact .pure
  | (k, x) :: c, u, es, n, t, L, e, hn, hl => by
    have hn' : ∀ y ∈ es, y.hash ≠ hashInt k := fun y hy he => by
      rw [List.nodup_append] at hn
      exact hn.2.2 y.hash (List.mem_map.mpr ⟨y, hy, rfl⟩) (hashInt k) (by simp [hashes]) he
    have hl' : es.length ≤ sizeLine := by rw [List.length_cons] at hl; omega
    show Runs p w n₀ ann _ (forIn ((Value.int k u, Value.str x (u + 1)) :: ((ents2 (u + 2) c).map fun e => (e.key, e.val))) PUnit.unit _) _ _ _ _ _
    rw [List.forIn_cons]
    refine Runs.bind (b₁ := 10) (Runs.bind (st_set e hx hn' hl') .pure) ?_ (by rw [List.length_cons]; omega)
    refine Runs.mono (b₁ := 10 * c.length) ?_ (by rw [List.length_cons]; omega)
    have := store_loop hx c (u + 2) (es ++ [⟨hashInt k, .int k u, .str x (u + 1)⟩]) (n + 1) (t + 1) (L.set i (dobj (es ++ [⟨hashInt k, .int k u, .str x (u + 1)⟩]) (n + 1))) (by rw [List.getElem?_set, if_pos rfl, if_pos (get_lt e)])
      (by simpa [hashes, List.append_assoc] using hn) (by rw [List.length_append, List.length_cons] at *; simp only [List.length_nil] at *; omega)
    rw [List.set_set] at this
    rw [show es ++ ents2 u ((k, x) :: c) = es ++ [⟨hashInt k, .int k u, .str x (u + 1)⟩] ++ ents2 (u + 2) c by rw [List.append_assoc]; rfl,
      show n + ((k, x) :: c).length = n + 1 + c.length by rw [List.length_cons]; omega, show t + ((k, x) :: c).length = t + 1 + c.length by rw [List.length_cons]; omega]
    exact this
theorem st_sub2 (hx : n₀ ≤ s.heap.objs.size) {c : List (Int × PySem.Str)} (h15 : c.length ≤ 15) (hn : (hashes c).Nodup) (hl : c.length ≤ sizeLine) :
    Runs p w n₀ ann (1 + 13 * c.length) (subDict (c.map (item q))) (st s L t) q (s.heap.objs.size + L.length) (st s (L ++ [dobj (ents2 t c) c.length]) (t + 2 * c.length + c.length)) q := by
  unfold subDict
  refine Runs.bind st_alloc (Runs.bind (b₁ := 13 * c.length) (a := ()) (Runs.holding ?_) .pure)
  rw [if_pos (by rw [List.length_map]; omega)]
  refine Runs.bind (pairs_loop c t) (Runs.holding ?_)
  have := store_loop (p := p) (w := w) (ann := ann) (q := q) hx c t [] 0 (t + 2 * c.length) (i := L.length) (L ++ [dobj [] 0]) (by simp) (by simpa using hn) (by simpa using hl)
  rw [List.nil_append, Nat.zero_add, show (L ++ [dobj [] 0]).set L.length (dobj (ents2 t c) c.length) = L ++ [dobj (ents2 t c) c.length] by simp] at this
  exact Runs.bind this .pure
end
end
section
set_option tactic.hygienic false
section
variable {p : Program} {w : World} {n₀ : Nat} {ann : Option Value} {q : Pos}
variable {s : Shared} {L : List Obj} {i : Nat} {es : List DictEntry} {n t : Nat}
noncomputable def IntKey (e : DictEntry) : Prop := ∃ k t, e.key = .int k t
theorem ents3_int : ∀ (t : Nat) (c : List (Int × PySem.Str)), ∀ e ∈ ents3 t c, IntKey e
  | _, [], _, h => by cases h
  | t, (k, x) :: r, e, h => by
    rcases List.mem_cons.mp h with rfl | h
    · exact ⟨k, t, rfl⟩
    · exact ents3_int (t + 3) r e h
theorem ents2_int : ∀ (t : Nat) (c : List (Int × PySem.Str)), ∀ e ∈ ents2 t c, IntKey e
  | _, [], _, h => by cases h
  | t, (k, x) :: r, e, h => by
    rcases List.mem_cons.mp h with rfl | h
    · exact ⟨k, t, rfl⟩
    · exact ents2_int (t + 2) r e h
theorem set_same {o : Obj} (e : L[i]? = some o) : L.set i o = L := by
  apply List.ext_getElem?
  intro j
  rw [List.getElem?_set]
  by_cases h : i = j
  · subst h; rw [if_pos rfl, if_pos (get_lt e), e]
  · rw [if_neg h]
theorem merge_loop (hx : n₀ ≤ s.heap.objs.size) {j : Nat} {se : List DictEntry} {m : Nat} (hij : i ≠ j) (hk : ∀ e ∈ se, IntKey e) : ∀ (r u : Nat) (es : List DictEntry) (n : Nat) (L : List Obj), u + r = se.length → L[i]? = some (dobj es n) → L[j]? = some (dobj se m) →
    ((es.map (·.hash)) ++ (se.drop u).map (·.hash)).Nodup → es.length + r ≤ sizeLine →
    Runs p w n₀ ann (6 * r) (forIn (List.range' u r) PUnit.unit fun (y : Nat) (_ : PUnit) => (do
                        let __do_lift ← dictEntries (s.heap.objs.size + j)
                        match __do_lift[y]? with
                          | some e => do
                            holding [e.key, e.val]
                                (if false = true then do
                                  let __do_lift ← dictFind (s.heap.objs.size + i) e.key e.hash
                                  if __do_lift.isSome = true then do
                                      rule "dict.merge.duplicate-key"
                                      let __do_lift ← newExc (Value.type "KeyError") [e.key]
                                      raiseNew __do_lift
                                      dictPut (s.heap.objs.size + i) e.hash e.key e.val
                                    else dictPut (s.heap.objs.size + i) e.hash e.key e.val
                                else dictPut (s.heap.objs.size + i) e.hash e.key e.val)
                            let __do_lift ← dictEpoch (s.heap.objs.size + j)
                            if (__do_lift != m) = true then do
                                unsupported "dict.changed-during-merge"
                                pure (ForInStep.yield PUnit.unit)
                              else pure (ForInStep.yield PUnit.unit)
                          | _ => do
                            unsupported "dict.changed-during-merge"
                            pure (ForInStep.yield PUnit.unit) : Sem (ForInStep PUnit))) (st s L t) q PUnit.unit (st s (L.set i (dobj (es ++ se.drop u) (n + r))) t) q
  | 0, u, es, n, L, hu, e, ej, hn, hl => by
    rw [show se.drop u = [] from List.drop_eq_nil_of_le (by omega), List.append_nil, Nat.add_zero, set_same e]
    exact .pure
  | r + 1, u, es, n, L, hu, e, ej, hn, hl => by
    rw [List.range'_succ, List.forIn_cons]
    have hlt : u < se.length := by omega
    have hd : se.drop u = se[u] :: se.drop (u + 1) := List.drop_eq_getElem_cons hlt
    refine pack fun G9 hG9 => ?_
    obtain ⟨k, tk, hkey⟩ := hk se[u] (List.getElem_mem hlt)
    refine hG9 ?_
    clear hG9
    have hn' : ∀ y ∈ es, y.hash ≠ se[u].hash := fun y hy he => by
      rw [hd, List.map_cons, List.nodup_append] at hn
      exact hn.2.2 y.hash (List.mem_map.mpr ⟨y, hy, rfl⟩) se[u].hash (by simp) he
    have hput := st_put (p := p) (w := w) (ann := ann) (q := q) (t := t) (k := k) (h := se[u].hash) (tk := tk) (v := se[u].val) e hx hn' (by omega)
    have ej' : (L.set i (dobj (es ++ [⟨se[u].hash, .int k tk, se[u].val⟩]) (n + 1)))[j]? = some (dobj se m) := by rw [List.getElem?_set, if_neg hij]; exact ej
    refine Runs.bind (b₁ := 6) (a := ForInStep.yield PUnit.unit) (s' := st s (L.set i (dobj (es ++ [⟨se[u].hash, .int k tk, se[u].val⟩]) (n + 1))) t) (q' := q) ?_ ?_
    · refine Runs.bind (runs_entries (ext_get ej)) ?_
      rw [show se.toArray[u]? = some se[u] by rw [List.getElem?_toArray, List.getElem?_eq_getElem hlt]]
      dsimp only
      refine Runs.bind (b₁ := 4) (a := ()) (q' := q) (Runs.holding ?_) (Runs.bind (runs_epoch (s := st s (L.set i (dobj (es ++ [⟨se[u].hash, .int k tk, se[u].val⟩]) (n + 1))) t) (ext_get ej')) ?_)
      · rw [if_neg (by simp), hkey]; exact hput
      · rw [if_neg (by simp)]; exact .pure
    · dsimp only
      have hent : (⟨se[u].hash, .int k tk, se[u].val⟩ : DictEntry) = se[u] := by rw [← hkey]
      rw [hent] at ej' ⊢
      have := merge_loop hx hij hk r (u + 1) (es ++ [se[u]]) (n + 1) (L.set i (dobj (es ++ [se[u]]) (n + 1))) (by omega) (by rw [List.getElem?_set, if_pos rfl, if_pos (get_lt e)]) ej'
        (by rw [hd] at hn; rw [List.map_append, List.append_assoc]; exact hn) (by rw [List.length_append, List.length_singleton]; omega)
      rw [List.set_set] at this
      refine Runs.mono (b₁ := 6 * r) ?_ (by omega)
      rw [hd, show es ++ se[u] :: se.drop (u + 1) = es ++ [se[u]] ++ se.drop (u + 1) by simp, show n + (r + 1) = n + 1 + r by omega]
      exact this
theorem st_merge (hx : n₀ ≤ s.heap.objs.size) {j : Nat} {se : List DictEntry} {m : Nat} (hij : i ≠ j) (hk : ∀ e ∈ se, IntKey e) (e : L[i]? = some (dobj es n)) (ej : L[j]? = some (dobj se m))
    (he : es ≠ []) (hn : ((es.map (·.hash)) ++ se.map (·.hash)).Nodup) (hl : es.length + se.length ≤ sizeLine) (hS : (s.heap.objs.size + j == sysModules) = false) :
    Runs p w n₀ ann (5 + 6 * se.length) (mergeMapping (s.heap.objs.size + i) (.ref (s.heap.objs.size + j)) false) (st s L t) q () (st s (L.set i (dobj (es ++ se) (n + se.length))) t) q := by
  have t1 : Runs p w n₀ ann 1 (typeOf (.ref (s.heap.objs.size + j))) (st s L t) q (.type "dict") (st s L t) q := Runs.bind (b₁ := 1) (a := dobj se m) (.load (b := 0) (ext_get ej) .pure) .pure
  have t2 : isSubtype (.type "dict") (.type "dict") = pure true := by rw [isSubtype_type]; kernel_rfl
  have t3 : typeLookup (.type "dict") "__iter__" = pure (some (.builtin "dict.__iter__")) := by rw [typeLookup_type, builtinLookup_eq_fast]; kernel_rfl
  have i1 : Runs p w n₀ ann 1 (isInstance (.ref (s.heap.objs.size + j)) (.type "dict")) (st s L t) q true (st s L t) q := by
    unfold isInstance
    refine Runs.bind t1 ?_
    rw [t2]
    exact .pure
  have i2 : Runs p w n₀ ann 1 (specialOf (.ref (s.heap.objs.size + j)) "__iter__") (st s L t) q (some (.builtin "dict.__iter__")) (st s L t) q := by
    unfold specialOf
    refine Runs.bind t1 ?_
    rw [t3]
    exact .pure
  unfold mergeMapping
  refine Runs.bind i1 ?_
  rw [if_pos rfl]
  refine Runs.bind i2 (Runs.bind (b₁ := 0) (a := true) .pure ?_)
  dsimp only
  rw [hS, if_neg Bool.false_ne_true]
  refine Runs.bind (runs_entries (ext_get e)) ?_
  rw [if_neg (by simpa using he)]
  refine Runs.bind (runs_entries (ext_get ej)) (Runs.bind (runs_epoch (ext_get ej)) ?_)
  rw [List.size_toArray, List.range_eq_range']
  have := merge_loop (p := p) (w := w) (ann := ann) (q := q) (t := t) hx hij hk se.length 0 es n L (by omega) e ej (by simpa using hn) (by omega)
  rw [List.drop_zero] at this
  exact Runs.bind this .pure (by omega)
end
end
section
set_option tactic.hygienic false
noncomputable abbrev KV := Int × PySem.Str
noncomputable def flushT (run : List (Sem Value × Sem Value)) (main : Option Addr) : Sem (Option Addr) :=
  if run.isEmpty = true then pure main else match main with
    | none => do
      let d ← subDict run
      pure (some d)
    | some d => do
      let sub ← holding [Value.ref d] (subDict run)
      (holding [Value.ref d, Value.ref sub] (mergeMapping d (Value.ref sub) false)).onRaise fun x => do
          let _ ← holding [Value.ref d, x] (runValue (Code.builtin "proto.let_go" { }))
          pure ()
      pure (some d)
noncomputable abbrev Acc := Option Addr × List (Sem Value × Sem Value)
noncomputable def itemS (q : Pos) (y : KV) : Option (Sem Value) × Sem Value := (some (item q y).1, (item q y).2)
structure Loops (f : Option (Sem Value) × Sem Value → Acc → Sem (ForInStep Acc)) : Prop where
  less : ∀ (y : Sem Value × Sem Value) (m : Option Addr) (run : List (Sem Value × Sem Value)), run.length + 1 ≠ 17 → f (some y.1, y.2) (m, run) = pure (.yield (m, run ++ [y]))
  full : ∀ (y : Sem Value × Sem Value) (m : Option Addr) (run : List (Sem Value × Sem Value)), run.length + 1 = 17 → f (some y.1, y.2) (m, run) = (flushT (run ++ [y]) m >>= fun m' => pure (.yield (m', [])))
section
variable {f : Option (Sem Value) × Sem Value → Acc → Sem (ForInStep Acc)} {q : Pos}
theorem Loops.last (hf : Loops f) : ∀ (c : List KV) (m : Option Addr) (run : List (Sem Value × Sem Value)), run.length + c.length < 17 → forIn (c.map (itemS q)) (m, run) f = pure (m, run ++ c.map (item q))
  | [], m, run, _ => by simp
  | y :: c, m, run, h => by
    rw [List.map_cons, List.forIn_cons]
    show (f (some (item q y).1, (item q y).2) (m, run) >>= _) = _
    rw [hf.less (item q y) m run (by rw [List.length_cons] at h; omega), pure_bind]
    dsimp only
    rw [Loops.last hf c m (run ++ [item q y]) (by rw [List.length_append, List.length_singleton]; rw [List.length_cons] at h; omega)]
    simp
theorem Loops.chunk (hf : Loops f) (rest : List (Option (Sem Value) × Sem Value)) : ∀ (c : List KV) (m : Option Addr) (run : List (Sem Value × Sem Value)), c ≠ [] → run.length + c.length = 17 →
    forIn (c.map (itemS q) ++ rest) (m, run) f = (flushT (run ++ c.map (item q)) m >>= fun m' => forIn rest (m', []) f)
  | [], _, _, h, _ => absurd rfl h
  | [y], m, run, _, h => by
    rw [List.map_cons, List.map_nil, List.cons_append, List.nil_append, List.forIn_cons]
    show (f (some (item q y).1, (item q y).2) (m, run) >>= _) = _
    rw [hf.full (item q y) m run (by simpa using h), bind_assoc]
    simp only [pure_bind, List.map_cons, List.map_nil]
  | y :: z :: c, m, run, _, h => by
    rw [List.map_cons, List.cons_append, List.forIn_cons]
    show (f (some (item q y).1, (item q y).2) (m, run) >>= _) = _
    rw [hf.less (item q y) m run (by simp only [List.length_cons] at h; omega), pure_bind]
    dsimp only
    rw [Loops.chunk hf rest (z :: c) m (run ++ [item q y]) (by simp) (by simp only [List.length_append, List.length_cons, List.length_nil] at h ⊢; omega)]
    simp
end
noncomputable def subsOf : Nat → List (List KV) → List Obj
  | _, [] => []
  | t, c :: cs => dobj (ents3 t c) c.length :: subsOf (t + 3 * c.length) cs
theorem ents3_append : ∀ (t : Nat) (a b : List KV), ents3 t (a ++ b) = ents3 t a ++ ents3 (t + 3 * a.length) b
  | _, [], _ => rfl
  | t, (k, x) :: a, b => by
    show kent k x t (t + 1) :: ents3 (t + 3) (a ++ b) = _
    rw [ents3_append (t + 3) a b, show t + 3 + 3 * a.length = t + 3 * ((k, x) :: a).length by rw [List.length_cons]; omega]
    rfl
section
variable {p : Program} {w : World} {n₀ : Nat} {ann : Option Value} {q : Pos}
variable {s : Shared} {L : List Obj} {i : Nat} {es : List DictEntry} {n t : Nat}
variable {f : Option (Sem Value) × Sem Value → Acc → Sem (ForInStep Acc)}
theorem st_flush_more (hx : n₀ ≤ s.heap.objs.size) {c : List KV} (h15 : 15 < c.length) (e : L[0]? = some (dobj es n)) (he : es ≠ []) (hn : (es.map (·.hash) ++ hashes c).Nodup) (hl : es.length + c.length ≤ sizeLine) (hS : (s.heap.objs.size + L.length == sysModules) = false) :
    Runs p w n₀ ann (7 + 19 * c.length) (flushT (c.map (item q)) (some s.heap.objs.size)) (st s L t) q (some s.heap.objs.size) (st s ((L ++ [dobj (ents3 t c) c.length]).set 0 (dobj (es ++ ents3 t c) (n + c.length))) (t + 3 * c.length)) q := by
  have h0 : 0 < L.length := get_lt e
  unfold flushT
  rw [if_neg (by cases c with | nil => simp at h15 | cons => simp)]
  dsimp only
  refine Runs.bind (Runs.holding (st_sub hx h15 (by rw [List.nodup_append] at hn; exact hn.2.1) (by omega))) ?_
  have hm := st_merge (p := p) (w := w) (ann := ann) (q := q) (t := t + 3 * c.length) (L := L ++ [dobj (ents3 t c) c.length]) (i := 0) (j := L.length) (es := es) (n := n) (se := ents3 t c) (m := c.length) hx (by omega) (ents3_int t c)
    (by rw [List.getElem?_append_left h0]; exact e) (by simp) he (by rw [ents3_hash]; exact hn) (by rw [ents3_length]; exact hl) hS
  rw [ents3_length] at hm
  exact Runs.bind (Runs.onRaise (Runs.holding hm)) .pure
theorem st_flush_last (hx : n₀ ≤ s.heap.objs.size) {c : List KV} (h0c : c ≠ []) (h15 : c.length ≤ 15) (e : L[0]? = some (dobj es n)) (he : es ≠ []) (hn : (es.map (·.hash) ++ hashes c).Nodup) (hl : es.length + c.length ≤ sizeLine) (hS : (s.heap.objs.size + L.length == sysModules) = false) :
    Runs p w n₀ ann (6 + 19 * c.length) (flushT (c.map (item q)) (some s.heap.objs.size)) (st s L t) q (some s.heap.objs.size) (st s ((L ++ [dobj (ents2 t c) c.length]).set 0 (dobj (es ++ ents2 t c) (n + c.length))) (t + 2 * c.length + c.length)) q := by
  have h0 : 0 < L.length := get_lt e
  unfold flushT
  rw [if_neg (by cases c with | nil => exact absurd rfl h0c | cons => simp)]
  dsimp only
  refine Runs.bind (Runs.holding (st_sub2 hx h15 (by rw [List.nodup_append] at hn; exact hn.2.1) (by omega))) ?_
  have hm := st_merge (p := p) (w := w) (ann := ann) (q := q) (t := t + 2 * c.length + c.length) (L := L ++ [dobj (ents2 t c) c.length]) (i := 0) (j := L.length) (es := es) (n := n) (se := ents2 t c) (m := c.length) hx (by omega) (ents2_int t c)
    (by rw [List.getElem?_append_left h0]; exact e) (by simp) he (by rw [ents2_hash]; exact hn) (by rw [ents2_length]; exact hl) hS
  rw [ents2_length] at hm
  exact Runs.bind (Runs.onRaise (Runs.holding hm)) .pure
theorem st_flush_first (hx : n₀ ≤ s.heap.objs.size) {c : List KV} (h15 : 15 < c.length) (hn : (hashes c).Nodup) (hl : c.length ≤ sizeLine) :
    Runs p w n₀ ann (2 + 13 * c.length) (flushT (c.map (item q)) none) (st s [] t) q (some s.heap.objs.size) (st s [dobj (ents3 t c) c.length] (t + 3 * c.length)) q := by
  unfold flushT
  rw [if_neg (by cases c with | nil => simp at h15 | cons => simp)]
  dsimp only
  exact Runs.bind (st_sub hx h15 hn hl) .pure
theorem disp_loop (hf : Loops f) (hx : n₀ ≤ s.heap.objs.size) (hS : ∀ k, (s.heap.objs.size + k == sysModules) = false) (lc : List KV) (hlc : lc.length < 17) : ∀ (cs : List (List KV)) (es : List DictEntry) (n t : Nat) (r : List Obj), (∀ c ∈ cs, c.length = 17) → es ≠ [] →
    (es.map (·.hash) ++ hashes cs.flatten).Nodup → es.length + cs.flatten.length ≤ sizeLine →
    Runs p w n₀ ann (330 * cs.length) (forIn ((cs.flatten ++ lc).map (itemS q)) ((some s.heap.objs.size : Option Addr), ([] : List (Sem Value × Sem Value))) f) (st s (dobj es n :: r) t) q (some s.heap.objs.size, lc.map (item q))
      (st s (dobj (es ++ ents3 t cs.flatten) (n + cs.flatten.length) :: (r ++ subsOf t cs)) (t + 3 * cs.flatten.length)) q
  | [], es, n, t, r, _, _, _, _ => by
    rw [List.flatten_nil, List.nil_append, hf.last lc _ [] (by simpa using hlc)]
    simp only [List.nil_append, ents3, subsOf, List.append_nil, List.length_nil, Nat.add_zero, Nat.mul_zero]
    exact .pure
  | c :: cs, es, n, t, r, hc, he, hn, hl => by
    have c17 := hc c (.head _)
    rw [List.flatten_cons, List.append_assoc, List.map_append, hf.chunk _ c _ [] (by intro h; rw [h] at c17; cases c17) (by simpa using c17), List.nil_append]
    rw [List.flatten_cons] at hn hl
    have hh : hashes (c ++ cs.flatten) = hashes c ++ hashes cs.flatten := by unfold hashes; rw [List.map_append]
    rw [hh, ← List.append_assoc] at hn
    rw [List.length_append] at hl
    refine Runs.bind (st_flush_more (L := dobj es n :: r) (c := c) hx (by omega) rfl he (by rw [List.nodup_append] at hn; exact hn.1) (by omega) (hS _)) ?_ (by rw [List.length_cons]; omega)
    refine Runs.mono (b₁ := 330 * cs.length) ?_ (by rw [List.length_cons]; omega)
    have := disp_loop hf hx hS lc hlc cs (es ++ ents3 t c) (n + c.length) (t + 3 * c.length) (r ++ [dobj (ents3 t c) c.length]) (fun x hx => hc x (.tail _ hx)) (by simp [he])
      (by rw [List.map_append, ents3_hash]; exact hn) (by rw [List.length_append, ents3_length]; omega)
    rw [ents3_append, List.length_append]
    simp only [subsOf, List.append_assoc, List.cons_append, List.nil_append, List.set_cons_zero] at this ⊢
    rw [show n + (c.length + cs.flatten.length) = n + c.length + cs.flatten.length by omega, show t + 3 * (c.length + cs.flatten.length) = t + 3 * c.length + 3 * cs.flatten.length by omega]
    exact this
theorem disp_first (hf : Loops f) (c₀ : List KV) (cs : List (List KV)) (lc : List KV) (hx : n₀ ≤ s.heap.objs.size) (hS : ∀ k, (s.heap.objs.size + k == sysModules) = false) (h₀ : c₀.length = 17) (hcs : ∀ c ∈ cs, c.length = 17) (hlc : lc.length ≤ 15)
    (hn : (hashes c₀ ++ hashes cs.flatten).Nodup) (hl : (c₀ ++ (cs.flatten ++ lc)).length ≤ sizeLine) :
    Runs p w n₀ ann (223 + 330 * cs.length) (forIn ((c₀ ++ (cs.flatten ++ lc)).map (itemS q)) ((none : Option Addr), ([] : List (Sem Value × Sem Value))) f) s q ((some s.heap.objs.size : Option Addr), lc.map (item q))
      (st s (dobj (ents3 s.toks (c₀ ++ cs.flatten)) (c₀.length + cs.flatten.length) :: subsOf (s.toks + 3 * c₀.length) cs) (s.toks + 3 * (c₀ ++ cs.flatten).length)) q := by
  have hs0 : st s [] s.toks = s := by unfold st; rw [ext_nil]
  have hfl : (c₀ ++ (cs.flatten ++ lc)).length = c₀.length + cs.flatten.length + lc.length := by simp only [List.length_append]; omega
  rw [List.map_append, hf.chunk _ c₀ _ [] (by intro h; rw [h] at h₀; cases h₀) (by simpa using h₀), List.nil_append]
  have e1 := st_flush_first (p := p) (w := w) (ann := ann) (q := q) (t := s.toks) (s := s) hx (c := c₀) (by omega) (by rw [List.nodup_append] at hn; exact hn.1) (by omega)
  rw [hs0] at e1
  refine Runs.bind e1 ?_
  refine Runs.mono (b₁ := 330 * cs.length) ?_ (by omega)
  have := disp_loop (p := p) (w := w) (ann := ann) (q := q) hf hx hS lc (by omega) cs (ents3 s.toks c₀) c₀.length (s.toks + 3 * c₀.length) [] hcs (by cases c₀ with | nil => cases h₀ | cons y r => obtain ⟨k, x⟩ := y; simp [ents3])
    (by rw [ents3_hash]; exact hn) (by rw [ents3_length]; omega)
  rw [ents3_append, List.length_append, Nat.mul_add, ← Nat.add_assoc]
  simpa only [List.nil_append] using this
theorem runs_display (c₀ : List KV) (cs : List (List KV)) (lc : List KV) (hx : n₀ ≤ s.heap.objs.size) (hS : ∀ k, (s.heap.objs.size + k == sysModules) = false) (h₀ : c₀.length = 17) (hcs : ∀ c ∈ cs, c.length = 17) (hlc0 : lc ≠ []) (hlc : lc.length ≤ 15)
    (hn : (hashes (c₀ ++ (cs.flatten ++ lc))).Nodup) (hl : (c₀ ++ (cs.flatten ++ lc)).length ≤ sizeLine) :
    Runs p w n₀ ann (229 + 330 * cs.length + 19 * lc.length) (dictDisplay ((c₀ ++ (cs.flatten ++ lc)).map (itemS q))) s q (.ref s.heap.objs.size)
      (st s (dobj (ents3 s.toks (c₀ ++ cs.flatten) ++ ents2 (s.toks + 3 * (c₀ ++ cs.flatten).length) lc) (c₀ ++ (cs.flatten ++ lc)).length :: (subsOf (s.toks + 3 * c₀.length) cs ++ [dobj (ents2 (s.toks + 3 * (c₀ ++ cs.flatten).length) lc) lc.length]))
        (s.toks + 3 * (c₀ ++ (cs.flatten ++ lc)).length)) q := by
  unfold dictDisplay
  dsimp only
  have hh : ∀ a b : List KV, hashes (a ++ b) = hashes a ++ hashes b := fun a b => by unfold hashes; rw [List.map_append]
  have hfl : (c₀ ++ (cs.flatten ++ lc)).length = c₀.length + cs.flatten.length + lc.length := by simp only [List.length_append]; omega
  have hn' := hn
  rw [hh, hh, ← List.append_assoc] at hn'
  refine Runs.bind (b₁ := 223 + 330 * cs.length) (a := ((some s.heap.objs.size : Option Addr), lc.map (item q))) (s' := st s (dobj (ents3 s.toks (c₀ ++ cs.flatten)) (c₀.length + cs.flatten.length) :: subsOf (s.toks + 3 * c₀.length) cs) (s.toks + 3 * (c₀ ++ cs.flatten).length)) (q' := q) ?_ ?_
  · refine disp_first ⟨fun y m run h => ?_, fun y m run h => ?_⟩ c₀ cs lc hx hS h₀ hcs hlc (by rw [List.nodup_append] at hn'; exact hn'.1) hl
    · have : ((run ++ [(y.1, y.2)]).length == 17) = false := by simpa using h
      dsimp only
      rw [this]
      rfl
    · have : ((run ++ [(y.1, y.2)]).length == 17) = true := by simpa using h
      dsimp only
      rw [this]
      rfl
  · refine Runs.bind (b₁ := 6 + 19 * lc.length) (a := some s.heap.objs.size) (s' := st s (dobj (ents3 s.toks (c₀ ++ cs.flatten) ++ ents2 (s.toks + 3 * (c₀ ++ cs.flatten).length) lc) (c₀ ++ (cs.flatten ++ lc)).length :: (subsOf (s.toks + 3 * c₀.length) cs ++ [dobj (ents2 (s.toks + 3 * (c₀ ++ cs.flatten).length) lc) lc.length]))
        (s.toks + 3 * (c₀ ++ (cs.flatten ++ lc)).length)) (q' := q) ?_ .pure
    have := st_flush_last (p := p) (w := w) (ann := ann) (q := q) (s := s) hx (c := lc) (t := s.toks + 3 * (c₀ ++ cs.flatten).length) (L := dobj (ents3 s.toks (c₀ ++ cs.flatten)) (c₀.length + cs.flatten.length) :: subsOf (s.toks + 3 * c₀.length) cs) hlc0 hlc rfl
      (by cases c₀ with | nil => cases h₀ | cons y r => obtain ⟨k, x⟩ := y; simp [ents3]) (by rw [ents3_hash, hh]; exact hn') (by rw [ents3_length, List.length_append]; omega) (hS _)
    simp only [List.cons_append, List.set_cons_zero] at this
    rw [show s.toks + 3 * (c₀ ++ cs.flatten).length + 2 * lc.length + lc.length = s.toks + 3 * (c₀ ++ (cs.flatten ++ lc)).length by simp only [List.length_append]; omega,
      show c₀.length + cs.flatten.length + lc.length = (c₀ ++ (cs.flatten ++ lc)).length by simp only [List.length_append]; omega] at this
    exact this
end
end
section
abbrev P1 : Program := PySem.Challenge.rw_us0019_01.prog
def stm (i : Nat) : Stmt := (P1.main.body[i]?).getD (.Pass default)
def fbody : Stmt → List Stmt
  | .FunctionDef _ _ b .. => b
  | _ => []
def fparams : Stmt → Arguments
  | .FunctionDef _ a .. => a
  | _ => default
def fscope : Stmt → PySem.Scope
  | .FunctionDef _ _ _ _ _ _ s .. => s
  | _ => default
def cbody : Stmt → List Stmt
  | .ClassDef _ _ _ b .. => b
  | _ => []
def sub (s : Stmt) (i : Nat) : Stmt := ((cbody s)[i]?).getD (.Pass default)
end
section
set_option maxRecDepth 100000
noncomputable abbrev pa1 : Arguments := (fun (s : Arguments) (_ : fparams (stm 1) = s) => s) _ (by conv => lhs; whnf)
noncomputable abbrev bd1 : List Stmt := (fun (s : List Stmt) (_ : fbody (stm 1) = s) => s) _ (by conv => lhs; whnf)
noncomputable abbrev sc1 : PySem.Scope := (fun (s : PySem.Scope) (_ : fscope (stm 1) = s) => s) _ (by conv => lhs; whnf)
noncomputable abbrev pa2 : Arguments := (fun (s : Arguments) (_ : fparams (stm 2) = s) => s) _ (by conv => lhs; whnf)
noncomputable abbrev bd2 : List Stmt := (fun (s : List Stmt) (_ : fbody (stm 2) = s) => s) _ (by conv => lhs; whnf)
noncomputable abbrev sc2 : PySem.Scope := (fun (s : PySem.Scope) (_ : fscope (stm 2) = s) => s) _ (by conv => lhs; whnf)
noncomputable abbrev pa3 : Arguments := (fun (s : Arguments) (_ : fparams (stm 3) = s) => s) _ (by conv => lhs; whnf)
noncomputable abbrev bd3 : List Stmt := (fun (s : List Stmt) (_ : fbody (stm 3) = s) => s) _ (by conv => lhs; whnf)
noncomputable abbrev sc3 : PySem.Scope := (fun (s : PySem.Scope) (_ : fscope (stm 3) = s) => s) _ (by conv => lhs; whnf)
noncomputable abbrev pa5 : Arguments := (fun (s : Arguments) (_ : fparams (stm 5) = s) => s) _ (by conv => lhs; whnf)
noncomputable abbrev bd5 : List Stmt := (fun (s : List Stmt) (_ : fbody (stm 5) = s) => s) _ (by conv => lhs; whnf)
noncomputable abbrev sc5 : PySem.Scope := (fun (s : PySem.Scope) (_ : fscope (stm 5) = s) => s) _ (by conv => lhs; whnf)
noncomputable abbrev pa10 : Arguments := (fun (s : Arguments) (_ : fparams (stm 10) = s) => s) _ (by conv => lhs; whnf)
noncomputable abbrev bd10 : List Stmt := (fun (s : List Stmt) (_ : fbody (stm 10) = s) => s) _ (by conv => lhs; whnf)
noncomputable abbrev sc10 : PySem.Scope := (fun (s : PySem.Scope) (_ : fscope (stm 10) = s) => s) _ (by conv => lhs; whnf)
noncomputable abbrev pa12 : Arguments := (fun (s : Arguments) (_ : fparams (stm 12) = s) => s) _ (by conv => lhs; whnf)
noncomputable abbrev bd12 : List Stmt := (fun (s : List Stmt) (_ : fbody (stm 12) = s) => s) _ (by conv => lhs; whnf)
noncomputable abbrev sc12 : PySem.Scope := (fun (s : PySem.Scope) (_ : fscope (stm 12) = s) => s) _ (by conv => lhs; whnf)
noncomputable abbrev pa14 : Arguments := (fun (s : Arguments) (_ : fparams (stm 14) = s) => s) _ (by conv => lhs; whnf)
noncomputable abbrev bd14 : List Stmt := (fun (s : List Stmt) (_ : fbody (stm 14) = s) => s) _ (by conv => lhs; whnf)
noncomputable abbrev sc14 : PySem.Scope := (fun (s : PySem.Scope) (_ : fscope (stm 14) = s) => s) _ (by conv => lhs; whnf)
noncomputable abbrev pa15 : Arguments := (fun (s : Arguments) (_ : fparams (stm 15) = s) => s) _ (by conv => lhs; whnf)
noncomputable abbrev bd15 : List Stmt := (fun (s : List Stmt) (_ : fbody (stm 15) = s) => s) _ (by conv => lhs; whnf)
noncomputable abbrev sc15 : PySem.Scope := (fun (s : PySem.Scope) (_ : fscope (stm 15) = s) => s) _ (by conv => lhs; whnf)
noncomputable abbrev pa16 : Arguments := (fun (s : Arguments) (_ : fparams (stm 16) = s) => s) _ (by conv => lhs; whnf)
noncomputable abbrev bd16 : List Stmt := (fun (s : List Stmt) (_ : fbody (stm 16) = s) => s) _ (by conv => lhs; whnf)
noncomputable abbrev sc16 : PySem.Scope := (fun (s : PySem.Scope) (_ : fscope (stm 16) = s) => s) _ (by conv => lhs; whnf)
noncomputable abbrev pa17 : Arguments := (fun (s : Arguments) (_ : fparams (stm 17) = s) => s) _ (by conv => lhs; whnf)
noncomputable abbrev bd17 : List Stmt := (fun (s : List Stmt) (_ : fbody (stm 17) = s) => s) _ (by conv => lhs; whnf)
noncomputable abbrev sc17 : PySem.Scope := (fun (s : PySem.Scope) (_ : fscope (stm 17) = s) => s) _ (by conv => lhs; whnf)
noncomputable abbrev pa18 : Arguments := (fun (s : Arguments) (_ : fparams (stm 18) = s) => s) _ (by conv => lhs; whnf)
noncomputable abbrev bd18 : List Stmt := (fun (s : List Stmt) (_ : fbody (stm 18) = s) => s) _ (by conv => lhs; whnf)
noncomputable abbrev sc18 : PySem.Scope := (fun (s : PySem.Scope) (_ : fscope (stm 18) = s) => s) _ (by conv => lhs; whnf)
noncomputable abbrev pa19 : Arguments := (fun (s : Arguments) (_ : fparams (stm 19) = s) => s) _ (by conv => lhs; whnf)
noncomputable abbrev bd19 : List Stmt := (fun (s : List Stmt) (_ : fbody (stm 19) = s) => s) _ (by conv => lhs; whnf)
noncomputable abbrev sc19 : PySem.Scope := (fun (s : PySem.Scope) (_ : fscope (stm 19) = s) => s) _ (by conv => lhs; whnf)
noncomputable abbrev pa20 : Arguments := (fun (s : Arguments) (_ : fparams (stm 20) = s) => s) _ (by conv => lhs; whnf)
noncomputable abbrev bd20 : List Stmt := (fun (s : List Stmt) (_ : fbody (stm 20) = s) => s) _ (by conv => lhs; whnf)
noncomputable abbrev sc20 : PySem.Scope := (fun (s : PySem.Scope) (_ : fscope (stm 20) = s) => s) _ (by conv => lhs; whnf)
noncomputable abbrev pa21 : Arguments := (fun (s : Arguments) (_ : fparams (stm 21) = s) => s) _ (by conv => lhs; whnf)
noncomputable abbrev bd21 : List Stmt := (fun (s : List Stmt) (_ : fbody (stm 21) = s) => s) _ (by conv => lhs; whnf)
noncomputable abbrev sc21 : PySem.Scope := (fun (s : PySem.Scope) (_ : fscope (stm 21) = s) => s) _ (by conv => lhs; whnf)
noncomputable abbrev pa22 : Arguments := (fun (s : Arguments) (_ : fparams (stm 22) = s) => s) _ (by conv => lhs; whnf)
noncomputable abbrev bd22 : List Stmt := (fun (s : List Stmt) (_ : fbody (stm 22) = s) => s) _ (by conv => lhs; whnf)
noncomputable abbrev sc22 : PySem.Scope := (fun (s : PySem.Scope) (_ : fscope (stm 22) = s) => s) _ (by conv => lhs; whnf)
noncomputable abbrev pa23 : Arguments := (fun (s : Arguments) (_ : fparams (stm 23) = s) => s) _ (by conv => lhs; whnf)
noncomputable abbrev bd23 : List Stmt := (fun (s : List Stmt) (_ : fbody (stm 23) = s) => s) _ (by conv => lhs; whnf)
noncomputable abbrev sc23 : PySem.Scope := (fun (s : PySem.Scope) (_ : fscope (stm 23) = s) => s) _ (by conv => lhs; whnf)
noncomputable abbrev pa7_0 : Arguments := (fun (s : Arguments) (_ : fparams (sub (stm 7) 0) = s) => s) _ (by conv => lhs; whnf)
noncomputable abbrev bd7_0 : List Stmt := (fun (s : List Stmt) (_ : fbody (sub (stm 7) 0) = s) => s) _ (by conv => lhs; whnf)
noncomputable abbrev sc7_0 : PySem.Scope := (fun (s : PySem.Scope) (_ : fscope (sub (stm 7) 0) = s) => s) _ (by conv => lhs; whnf)
noncomputable abbrev pa7_1 : Arguments := (fun (s : Arguments) (_ : fparams (sub (stm 7) 1) = s) => s) _ (by conv => lhs; whnf)
noncomputable abbrev bd7_1 : List Stmt := (fun (s : List Stmt) (_ : fbody (sub (stm 7) 1) = s) => s) _ (by conv => lhs; whnf)
noncomputable abbrev sc7_1 : PySem.Scope := (fun (s : PySem.Scope) (_ : fscope (sub (stm 7) 1) = s) => s) _ (by conv => lhs; whnf)
noncomputable abbrev pa7_2 : Arguments := (fun (s : Arguments) (_ : fparams (sub (stm 7) 2) = s) => s) _ (by conv => lhs; whnf)
noncomputable abbrev bd7_2 : List Stmt := (fun (s : List Stmt) (_ : fbody (sub (stm 7) 2) = s) => s) _ (by conv => lhs; whnf)
noncomputable abbrev sc7_2 : PySem.Scope := (fun (s : PySem.Scope) (_ : fscope (sub (stm 7) 2) = s) => s) _ (by conv => lhs; whnf)
noncomputable abbrev pa7_3 : Arguments := (fun (s : Arguments) (_ : fparams (sub (stm 7) 3) = s) => s) _ (by conv => lhs; whnf)
noncomputable abbrev bd7_3 : List Stmt := (fun (s : List Stmt) (_ : fbody (sub (stm 7) 3) = s) => s) _ (by conv => lhs; whnf)
noncomputable abbrev sc7_3 : PySem.Scope := (fun (s : PySem.Scope) (_ : fscope (sub (stm 7) 3) = s) => s) _ (by conv => lhs; whnf)
end
section
set_option maxRecDepth 100000
set_option linter.unusedVariables false
noncomputable section
noncomputable def kvOf : Option PySem.Expr × PySem.Expr → KV
  | (some (.Constant (.int k) _ _), .Constant (.str x) _ _) => (k, x)
  | _ => (0, ⟨#[]⟩)
noncomputable def dictKV : Stmt → List KV
  | .Assign _ (.Dict ks vs _) _ => (ks.zip vs).map kvOf
  | _ => []
noncomputable def chunks : Nat → List KV → List (List KV)
  | 0, _ => []
  | n + 1, l => l.take 17 :: chunks n (l.drop 17)
noncomputable def b3kv : List KV := dictKV (stm 11)
noncomputable def b3c0 : List KV := b3kv.take 17
noncomputable def b3cs : List (List KV) := chunks 37 (b3kv.drop 17)
noncomputable def b3lc : List KV := b3kv.drop 646
noncomputable def b3ents : List DictEntry := ents3 370 (b3c0 ++ b3cs.flatten) ++ ents2 (370 + 3 * 646) b3lc
noncomputable def b3objs : List Obj := dobj b3ents 650 :: (subsOf (370 + 3 * 17) b3cs ++ [dobj (ents2 (370 + 3 * 646) b3lc) 4])
noncomputable abbrev o11 (P : Params) : Obj := { cls := Value.type "tuple", data := Data.seq #[] }
noncomputable abbrev o12 (P : Params) : Obj := { cls := Value.none, data := Data.fields #[] }
noncomputable abbrev o13 (P : Params) : Obj := { cls := Value.type "code", data := Data.fields #[Value.str (Str.ofString "<module>") 182, Value.str (Str.ofString "<module>") 183, Value.str (Str.ofString "/claim/cut.py") 184, Value.int 1 0, Value.int 0 0, Value.int 0 0, Value.int 0 0, Value.int 0 0, Value.ref 11, Value.bool false, Value.int 181 0, Value.ref 12, Value.none, Value.none, Value.none, Value.none, Value.int 185 0, Value.int 1 0, Value.str (Str.ofString "/claim/cut.py") 186] }
noncomputable abbrev o14 (P : Params) : Obj := { cls := Value.type "frame", slots := #[some (Value.ref 13), some (Value.ref 3), some (Value.ref 3), none, some (Value.str (Str.ofString "__main__") 164), none, some (Value.ref 0)] }
noncomputable def headA (P : Params) : Heap := ⟨⟨[boot_o_0 P, boot_o_1 P, boot_o_2 P, boot_o_3 P, boot_o_4 P, boot_o_5 P, boot_o_6 P, boot_o_7 P, boot_o_8 P, boot_o_9 P, boot_o_10 P, o11 P, o12 P, o13 P, o14 P]⟩, { }⟩
noncomputable def stA (w : World) (os : OsState) : Shared := ⟨headA w.params, #[], { }, 187, os⟩
noncomputable def trb (P : Params) : BT := (.node (boot_o_0 P) (.node (boot_o_1 P) (.node (boot_o_3 P) (.node (boot_o_7 P) .nil .nil) (.node (o11 P) .nil .nil)) (.node (boot_o_5 P) (.node (boot_o_9 P) .nil .nil) (.node (o13 P) .nil .nil))) (.node (boot_o_2 P) (.node (boot_o_4 P) (.node (boot_o_8 P) .nil .nil) (.node (o12 P) .nil .nil)) (.node (boot_o_6 P) (.node (boot_o_10 P) .nil .nil) (.node (o14 P) .nil .nil))))
noncomputable def stb (w : World) (os : OsState) : SharedT := ⟨trb w.params, 15, { }, #[], { }, 187, os⟩
noncomputable abbrev o3v1 (P : Params) : Obj := { cls := Value.type "dict", data := Data.dict #[{ hash := PyData.keyHash P (Str.ofString "__name__"), key := Value.str (Str.ofString "__name__") 165, val := Value.str (Str.ofString "cpy313.netrc") 241 }, { hash := PyData.keyHash P (Str.ofString "__doc__"), key := Value.str (Str.ofString "__doc__") 166, val := Value.none }, { hash := PyData.keyHash P (Str.ofString "__package__"), key := Value.str (Str.ofString "__package__") 167, val := Value.none }, { hash := PyData.keyHash P (Str.ofString "__loader__"), key := Value.str (Str.ofString "__loader__") 168, val := Value.builtin "__main__.__loader__#opaque" }, { hash := PyData.keyHash P (Str.ofString "__spec__"), key := Value.str (Str.ofString "__spec__") 169, val := Value.none }, { hash := PyData.keyHash P (Str.ofString "__annotations__"), key := Value.str (Str.ofString "__annotations__") 170, val := Value.ref 6 }, { hash := PyData.keyHash P (Str.ofString "__builtins__"), key := Value.str (Str.ofString "__builtins__") 171, val := Value.ref 4 }, { hash := PyData.keyHash P (Str.ofString "__file__"), key := Value.str (Str.ofString "__file__") 173, val := Value.str (Str.ofString "/claim/cut.py") 172 }, { hash := PyData.keyHash P (Str.ofString "__cached__"), key := Value.str (Str.ofString "__cached__") 174, val := Value.none }, { hash := PyData.keyHash P (Str.ofString "insort_right"), key := Value.str (Str.ofString "insort_right") 201, val := Value.ref 23 }, { hash := PyData.keyHash P (Str.ofString "bisect_right"), key := Value.str (Str.ofString "bisect_right") 215, val := Value.ref 32 }, { hash := PyData.keyHash P (Str.ofString "bisect_left"), key := Value.str (Str.ofString "bisect_left") 229, val := Value.ref 41 }, { hash := PyData.keyHash P (Str.ofString "_parse_varint"), key := Value.str (Str.ofString "_parse_varint") 240, val := Value.ref 48 }] 13 }
noncomputable abbrev o12v1 (P : Params) : Obj := { cls := Value.none, data := Data.fields #[Value.int 2 0, Value.int 0 0, Value.ref 22, Value.int 8 0, Value.int 0 0, Value.ref 31, Value.int 28 0, Value.int 0 0, Value.ref 40, Value.int 49 0, Value.int 0 0, Value.ref 47] }
noncomputable abbrev o15 (P : Params) : Obj := { cls := Value.type "tuple", data := Data.seq #[Value.int 0 189, Value.none] }
noncomputable abbrev o16 (P : Params) : Obj := { cls := Value.type "dict", data := Data.dict #[{ hash := PyData.keyHash P (Str.ofString "key"), key := Value.str (Str.ofString "key") 190, val := Value.none }] 1 }
noncomputable abbrev o17 (P : Params) : Obj := { cls := Value.type "tuple", data := Data.seq #[] }
noncomputable abbrev o18 (P : Params) : Obj := { cls := Value.none, data := Data.fields #[] }
noncomputable abbrev o19 (P : Params) : Obj := { cls := Value.type "tuple", data := Data.seq #[Value.str (Str.ofString "a") 194, Value.str (Str.ofString "x") 195, Value.str (Str.ofString "lo") 196, Value.str (Str.ofString "hi") 197, Value.str (Str.ofString "key") 198] }
noncomputable abbrev o20 (P : Params) : Obj := { cls := Value.type "tuple", data := Data.seq #[] }
noncomputable abbrev o21 (P : Params) : Obj := { cls := Value.none, data := Data.func { name := Str.ofString "insort_right", qualname := Str.ofString "insort_right", params := pa1, body := FuncBody.stmts bd1, scope := sc1, globals := 0, closure := [], defaults := Value.none, kwdefaults := Value.none } }
noncomputable abbrev o22 (P : Params) : Obj := { cls := Value.type "code", data := Data.fields #[Value.str (Str.ofString "insort_right") 191, Value.str (Str.ofString "insort_right") 192, Value.str (Str.ofString "/claim/cut.py") 193, Value.int 2 0, Value.int 4 0, Value.int 0 0, Value.int 1 0, Value.int 3 0, Value.ref 17, Value.bool true, Value.int 181 0, Value.ref 18, Value.none, Value.ref 19, Value.ref 20, Value.ref 21, Value.int 199 0, Value.int 2 0, Value.str (Str.ofString "/claim/cut.py") 200] }
noncomputable abbrev o23 (P : Params) : Obj := { cls := Value.type "function", data := Data.func { name := Str.ofString "insort_right", qualname := Str.ofString "insort_right", params := pa1, body := FuncBody.stmts bd1, scope := sc1, globals := 3, closure := [], defaults := Value.ref 15, kwdefaults := Value.ref 16, pyModule := Value.str (Str.ofString "cpy313.bisect") 187, code := Value.ref 22 } }
noncomputable abbrev o24 (P : Params) : Obj := { cls := Value.type "tuple", data := Data.seq #[Value.int 0 202, Value.none] }
noncomputable abbrev o25 (P : Params) : Obj := { cls := Value.type "dict", data := Data.dict #[{ hash := PyData.keyHash P (Str.ofString "key"), key := Value.str (Str.ofString "key") 203, val := Value.none }] 1 }
noncomputable abbrev o26 (P : Params) : Obj := { cls := Value.type "tuple", data := Data.seq #[] }
noncomputable abbrev o27 (P : Params) : Obj := { cls := Value.none, data := Data.fields #[] }
noncomputable abbrev o28 (P : Params) : Obj := { cls := Value.type "tuple", data := Data.seq #[Value.str (Str.ofString "a") 207, Value.str (Str.ofString "x") 208, Value.str (Str.ofString "lo") 209, Value.str (Str.ofString "hi") 210, Value.str (Str.ofString "key") 211, Value.str (Str.ofString "mid") 212] }
noncomputable abbrev o29 (P : Params) : Obj := { cls := Value.type "tuple", data := Data.seq #[] }
noncomputable abbrev o30 (P : Params) : Obj := { cls := Value.none, data := Data.func { name := Str.ofString "bisect_right", qualname := Str.ofString "bisect_right", params := pa2, body := FuncBody.stmts bd2, scope := sc2, globals := 0, closure := [], defaults := Value.none, kwdefaults := Value.none } }
noncomputable abbrev o31 (P : Params) : Obj := { cls := Value.type "code", data := Data.fields #[Value.str (Str.ofString "bisect_right") 204, Value.str (Str.ofString "bisect_right") 205, Value.str (Str.ofString "/claim/cut.py") 206, Value.int 8 0, Value.int 4 0, Value.int 0 0, Value.int 1 0, Value.int 3 0, Value.ref 26, Value.bool true, Value.int 181 0, Value.ref 27, Value.none, Value.ref 28, Value.ref 29, Value.ref 30, Value.int 213 0, Value.int 8 0, Value.str (Str.ofString "/claim/cut.py") 214] }
noncomputable abbrev o32 (P : Params) : Obj := { cls := Value.type "function", data := Data.func { name := Str.ofString "bisect_right", qualname := Str.ofString "bisect_right", params := pa2, body := FuncBody.stmts bd2, scope := sc2, globals := 3, closure := [], defaults := Value.ref 24, kwdefaults := Value.ref 25, pyModule := Value.str (Str.ofString "cpy313.bisect") 187, code := Value.ref 31 } }
noncomputable abbrev o33 (P : Params) : Obj := { cls := Value.type "tuple", data := Data.seq #[Value.int 0 216, Value.none] }
noncomputable abbrev o34 (P : Params) : Obj := { cls := Value.type "dict", data := Data.dict #[{ hash := PyData.keyHash P (Str.ofString "key"), key := Value.str (Str.ofString "key") 217, val := Value.none }] 1 }
noncomputable abbrev o35 (P : Params) : Obj := { cls := Value.type "tuple", data := Data.seq #[] }
noncomputable abbrev o36 (P : Params) : Obj := { cls := Value.none, data := Data.fields #[] }
noncomputable abbrev o37 (P : Params) : Obj := { cls := Value.type "tuple", data := Data.seq #[Value.str (Str.ofString "a") 221, Value.str (Str.ofString "x") 222, Value.str (Str.ofString "lo") 223, Value.str (Str.ofString "hi") 224, Value.str (Str.ofString "key") 225, Value.str (Str.ofString "mid") 226] }
noncomputable abbrev o38 (P : Params) : Obj := { cls := Value.type "tuple", data := Data.seq #[] }
noncomputable abbrev o39 (P : Params) : Obj := { cls := Value.none, data := Data.func { name := Str.ofString "bisect_left", qualname := Str.ofString "bisect_left", params := pa3, body := FuncBody.stmts bd3, scope := sc3, globals := 0, closure := [], defaults := Value.none, kwdefaults := Value.none } }
noncomputable abbrev o40 (P : Params) : Obj := { cls := Value.type "code", data := Data.fields #[Value.str (Str.ofString "bisect_left") 218, Value.str (Str.ofString "bisect_left") 219, Value.str (Str.ofString "/claim/cut.py") 220, Value.int 28 0, Value.int 4 0, Value.int 0 0, Value.int 1 0, Value.int 3 0, Value.ref 35, Value.bool true, Value.int 181 0, Value.ref 36, Value.none, Value.ref 37, Value.ref 38, Value.ref 39, Value.int 227 0, Value.int 28 0, Value.str (Str.ofString "/claim/cut.py") 228] }
noncomputable abbrev o41 (P : Params) : Obj := { cls := Value.type "function", data := Data.func { name := Str.ofString "bisect_left", qualname := Str.ofString "bisect_left", params := pa3, body := FuncBody.stmts bd3, scope := sc3, globals := 3, closure := [], defaults := Value.ref 33, kwdefaults := Value.ref 34, pyModule := Value.str (Str.ofString "cpy313.bisect") 187, code := Value.ref 40 } }
noncomputable abbrev o42 (P : Params) : Obj := { cls := Value.type "tuple", data := Data.seq #[] }
noncomputable abbrev o43 (P : Params) : Obj := { cls := Value.none, data := Data.fields #[] }
noncomputable abbrev o44 (P : Params) : Obj := { cls := Value.type "tuple", data := Data.seq #[Value.str (Str.ofString "iterator") 235, Value.str (Str.ofString "b") 236, Value.str (Str.ofString "val") 237] }
noncomputable abbrev o45 (P : Params) : Obj := { cls := Value.type "tuple", data := Data.seq #[] }
noncomputable abbrev o46 (P : Params) : Obj := { cls := Value.none, data := Data.func { name := Str.ofString "_parse_varint", qualname := Str.ofString "_parse_varint", params := pa5, body := FuncBody.stmts bd5, scope := sc5, globals := 0, closure := [], defaults := Value.none, kwdefaults := Value.none } }
noncomputable abbrev o47 (P : Params) : Obj := { cls := Value.type "code", data := Data.fields #[Value.str (Str.ofString "_parse_varint") 232, Value.str (Str.ofString "_parse_varint") 233, Value.str (Str.ofString "/claim/cut.py") 234, Value.int 49 0, Value.int 1 0, Value.int 0 0, Value.int 0 0, Value.int 3 0, Value.ref 42, Value.bool true, Value.int 181 0, Value.ref 43, Value.none, Value.ref 44, Value.ref 45, Value.ref 46, Value.int 238 0, Value.int 49 0, Value.str (Str.ofString "/claim/cut.py") 239] }
noncomputable abbrev o48 (P : Params) : Obj := { cls := Value.type "function", data := Data.func { name := Str.ofString "_parse_varint", qualname := Str.ofString "_parse_varint", params := pa5, body := FuncBody.stmts bd5, scope := sc5, globals := 3, closure := [], defaults := Value.none, kwdefaults := Value.none, pyModule := Value.str (Str.ofString "cpy313.dis") 230, code := Value.ref 47 } }
noncomputable def tr0 (P : Params) : BT := (.node (boot_o_0 P) (.node (boot_o_1 P) (.node (o3v1 P) (.node (boot_o_7 P) (.node (o15 P) (.node (o31 P) .nil .nil) (.node (o47 P) .nil .nil)) (.node (o23 P) (.node (o39 P) .nil .nil) .nil)) (.node (o11 P) (.node (o19 P) (.node (o35 P) .nil .nil) .nil) (.node (o27 P) (.node (o43 P) .nil .nil) .nil))) (.node (boot_o_5 P) (.node (boot_o_9 P) (.node (o17 P) (.node (o33 P) .nil .nil) .nil) (.node (o25 P) (.node (o41 P) .nil .nil) .nil)) (.node (o13 P) (.node (o21 P) (.node (o37 P) .nil .nil) .nil) (.node (o29 P) (.node (o45 P) .nil .nil) .nil)))) (.node (boot_o_2 P) (.node (boot_o_4 P) (.node (boot_o_8 P) (.node (o16 P) (.node (o32 P) .nil .nil) (.node (o48 P) .nil .nil)) (.node (o24 P) (.node (o40 P) .nil .nil) .nil)) (.node (o12v1 P) (.node (o20 P) (.node (o36 P) .nil .nil) .nil) (.node (o28 P) (.node (o44 P) .nil .nil) .nil))) (.node (boot_o_6 P) (.node (boot_o_10 P) (.node (o18 P) (.node (o34 P) .nil .nil) .nil) (.node (o26 P) (.node (o42 P) .nil .nil) .nil)) (.node (o14 P) (.node (o22 P) (.node (o38 P) .nil .nil) .nil) (.node (o30 P) (.node (o46 P) .nil .nil) .nil)))))
noncomputable def st0 (w : World) (os : OsState) : SharedT := ⟨tr0 w.params, 49, { }, #[], { }, 243, os⟩
noncomputable abbrev o3v2 (P : Params) : Obj := { cls := Value.type "dict", data := Data.dict #[{ hash := PyData.keyHash P (Str.ofString "__name__"), key := Value.str (Str.ofString "__name__") 165, val := Value.str (Str.ofString "cpy313.stringprep") 301 }, { hash := PyData.keyHash P (Str.ofString "__doc__"), key := Value.str (Str.ofString "__doc__") 166, val := Value.none }, { hash := PyData.keyHash P (Str.ofString "__package__"), key := Value.str (Str.ofString "__package__") 167, val := Value.none }, { hash := PyData.keyHash P (Str.ofString "__loader__"), key := Value.str (Str.ofString "__loader__") 168, val := Value.builtin "__main__.__loader__#opaque" }, { hash := PyData.keyHash P (Str.ofString "__spec__"), key := Value.str (Str.ofString "__spec__") 169, val := Value.none }, { hash := PyData.keyHash P (Str.ofString "__annotations__"), key := Value.str (Str.ofString "__annotations__") 170, val := Value.ref 6 }, { hash := PyData.keyHash P (Str.ofString "__builtins__"), key := Value.str (Str.ofString "__builtins__") 171, val := Value.ref 4 }, { hash := PyData.keyHash P (Str.ofString "__file__"), key := Value.str (Str.ofString "__file__") 173, val := Value.str (Str.ofString "/claim/cut.py") 172 }, { hash := PyData.keyHash P (Str.ofString "__cached__"), key := Value.str (Str.ofString "__cached__") 174, val := Value.none }, { hash := PyData.keyHash P (Str.ofString "insort_right"), key := Value.str (Str.ofString "insort_right") 201, val := Value.ref 23 }, { hash := PyData.keyHash P (Str.ofString "bisect_right"), key := Value.str (Str.ofString "bisect_right") 215, val := Value.ref 32 }, { hash := PyData.keyHash P (Str.ofString "bisect_left"), key := Value.str (Str.ofString "bisect_left") 229, val := Value.ref 41 }, { hash := PyData.keyHash P (Str.ofString "_parse_varint"), key := Value.str (Str.ofString "_parse_varint") 240, val := Value.ref 48 }, { hash := PyData.keyHash P (Str.ofString "_netrclex"), key := Value.str (Str.ofString "_netrclex") 300, val := Value.ref 86 }] 14 }
noncomputable abbrev o12v2 (P : Params) : Obj := { cls := Value.none, data := Data.fields #[Value.int 2 0, Value.int 0 0, Value.ref 22, Value.int 8 0, Value.int 0 0, Value.ref 31, Value.int 28 0, Value.int 0 0, Value.ref 40, Value.int 49 0, Value.int 0 0, Value.ref 47, Value.int 58 0, Value.int 0 0, Value.ref 54] }
noncomputable abbrev o49 (P : Params) : Obj := { cls := Value.type "tuple", data := Data.seq #[] }
noncomputable abbrev o50 (P : Params) : Obj := { cls := Value.type "builtin_function_or_method", data := Data.fields #[Value.builtin "type.__prepare__", Value.type "type"] }
noncomputable abbrev o51 (P : Params) : Obj := { cls := Value.type "dict", data := Data.dict #[{ hash := PyData.keyHash P (Str.ofString "__module__"), key := Value.str (Str.ofString "__module__") 250, val := Value.str (Str.ofString "cpy313.netrc") 241 }, { hash := PyData.keyHash P (Str.ofString "__qualname__"), key := Value.str (Str.ofString "__qualname__") 252, val := Value.str (Str.ofString "_netrclex") 251 }, { hash := PyData.keyHash P (Str.ofString "__firstlineno__"), key := Value.str (Str.ofString "__firstlineno__") 254, val := Value.int 58 253 }, { hash := PyData.keyHash P (Str.ofString "__init__"), key := Value.str (Str.ofString "__init__") 262, val := Value.ref 62 }, { hash := PyData.keyHash P (Str.ofString "_read_char"), key := Value.str (Str.ofString "_read_char") 270, val := Value.ref 69 }, { hash := PyData.keyHash P (Str.ofString "get_token"), key := Value.str (Str.ofString "get_token") 280, val := Value.ref 76 }, { hash := PyData.keyHash P (Str.ofString "push_token"), key := Value.str (Str.ofString "push_token") 288, val := Value.ref 83 }, { hash := PyData.keyHash P (Str.ofString "__static_attributes__"), key := Value.str (Str.ofString "__static_attributes__") 293, val := Value.ref 84 }] 8 }
noncomputable abbrev o52 (P : Params) : Obj := { cls := Value.type "tuple", data := Data.seq #[] }
noncomputable abbrev o53 (P : Params) : Obj := { cls := Value.none, data := Data.fields #[Value.int 60 0, Value.int 4 0, Value.ref 61, Value.int 66 0, Value.int 4 0, Value.ref 68, Value.int 72 0, Value.int 4 0, Value.ref 75, Value.int 99 0, Value.int 4 0, Value.ref 82] }
noncomputable abbrev o54 (P : Params) : Obj := { cls := Value.type "code", data := Data.fields #[Value.str (Str.ofString "_netrclex") 245, Value.str (Str.ofString "_netrclex") 246, Value.str (Str.ofString "/claim/cut.py") 247, Value.int 58 0, Value.int 0 0, Value.int 0 0, Value.int 0 0, Value.int 0 0, Value.ref 52, Value.bool false, Value.int 181 0, Value.ref 53, Value.none, Value.none, Value.none, Value.none, Value.int 248 0, Value.int 58 0, Value.str (Str.ofString "/claim/cut.py") 249] }
noncomputable abbrev o55 (P : Params) : Obj := { cls := Value.type "frame", slots := #[some (Value.ref 54), some (Value.ref 3), some (Value.ref 51), none, some (Value.str (Str.ofString "cpy313.netrc") 241), none, some (Value.ref 0)] }
noncomputable abbrev o56 (P : Params) : Obj := { cls := Value.type "tuple", data := Data.seq #[] }
noncomputable abbrev o57 (P : Params) : Obj := { cls := Value.none, data := Data.fields #[] }
noncomputable abbrev o58 (P : Params) : Obj := { cls := Value.type "tuple", data := Data.seq #[Value.str (Str.ofString "self") 258, Value.str (Str.ofString "fp") 259] }
noncomputable abbrev o59 (P : Params) : Obj := { cls := Value.type "tuple", data := Data.seq #[] }
noncomputable abbrev o60 (P : Params) : Obj := { cls := Value.none, data := Data.func { name := Str.ofString "__init__", qualname := Str.ofString "_netrclex.__init__", params := pa7_0, body := FuncBody.stmts bd7_0, scope := sc7_0, globals := 0, closure := [], defaults := Value.none, kwdefaults := Value.none } }
noncomputable abbrev o61 (P : Params) : Obj := { cls := Value.type "code", data := Data.fields #[Value.str (Str.ofString "__init__") 255, Value.str (Str.ofString "_netrclex.__init__") 256, Value.str (Str.ofString "/claim/cut.py") 257, Value.int 60 0, Value.int 2 0, Value.int 0 0, Value.int 0 0, Value.int 3 0, Value.ref 56, Value.bool true, Value.int 181 0, Value.ref 57, Value.none, Value.ref 58, Value.ref 59, Value.ref 60, Value.int 260 0, Value.int 60 0, Value.str (Str.ofString "/claim/cut.py") 261] }
noncomputable abbrev o62 (P : Params) : Obj := { cls := Value.type "function", data := Data.func { name := Str.ofString "__init__", qualname := Str.ofString "_netrclex.__init__", params := pa7_0, body := FuncBody.stmts bd7_0, scope := sc7_0, globals := 3, closure := [], defaults := Value.none, kwdefaults := Value.none, pyModule := Value.str (Str.ofString "cpy313.netrc") 241, code := Value.ref 61 } }
noncomputable abbrev o63 (P : Params) : Obj := { cls := Value.type "tuple", data := Data.seq #[] }
noncomputable abbrev o64 (P : Params) : Obj := { cls := Value.none, data := Data.fields #[] }
noncomputable abbrev o65 (P : Params) : Obj := { cls := Value.type "tuple", data := Data.seq #[Value.str (Str.ofString "self") 266, Value.str (Str.ofString "ch") 267] }
noncomputable abbrev o66 (P : Params) : Obj := { cls := Value.type "tuple", data := Data.seq #[] }
noncomputable abbrev o67 (P : Params) : Obj := { cls := Value.none, data := Data.func { name := Str.ofString "_read_char", qualname := Str.ofString "_netrclex._read_char", params := pa7_1, body := FuncBody.stmts bd7_1, scope := sc7_1, globals := 0, closure := [], defaults := Value.none, kwdefaults := Value.none } }
noncomputable abbrev o68 (P : Params) : Obj := { cls := Value.type "code", data := Data.fields #[Value.str (Str.ofString "_read_char") 263, Value.str (Str.ofString "_netrclex._read_char") 264, Value.str (Str.ofString "/claim/cut.py") 265, Value.int 66 0, Value.int 1 0, Value.int 0 0, Value.int 0 0, Value.int 3 0, Value.ref 63, Value.bool true, Value.int 181 0, Value.ref 64, Value.none, Value.ref 65, Value.ref 66, Value.ref 67, Value.int 268 0, Value.int 66 0, Value.str (Str.ofString "/claim/cut.py") 269] }
noncomputable abbrev o69 (P : Params) : Obj := { cls := Value.type "function", data := Data.func { name := Str.ofString "_read_char", qualname := Str.ofString "_netrclex._read_char", params := pa7_1, body := FuncBody.stmts bd7_1, scope := sc7_1, globals := 3, closure := [], defaults := Value.none, kwdefaults := Value.none, pyModule := Value.str (Str.ofString "cpy313.netrc") 241, code := Value.ref 68 } }
noncomputable abbrev o70 (P : Params) : Obj := { cls := Value.type "tuple", data := Data.seq #[] }
noncomputable abbrev o71 (P : Params) : Obj := { cls := Value.none, data := Data.fields #[] }
noncomputable abbrev o72 (P : Params) : Obj := { cls := Value.type "tuple", data := Data.seq #[Value.str (Str.ofString "self") 274, Value.str (Str.ofString "token") 275, Value.str (Str.ofString "fiter") 276, Value.str (Str.ofString "ch") 277] }
noncomputable abbrev o73 (P : Params) : Obj := { cls := Value.type "tuple", data := Data.seq #[] }
noncomputable abbrev o74 (P : Params) : Obj := { cls := Value.none, data := Data.func { name := Str.ofString "get_token", qualname := Str.ofString "_netrclex.get_token", params := pa7_2, body := FuncBody.stmts bd7_2, scope := sc7_2, globals := 0, closure := [], defaults := Value.none, kwdefaults := Value.none } }
noncomputable abbrev o75 (P : Params) : Obj := { cls := Value.type "code", data := Data.fields #[Value.str (Str.ofString "get_token") 271, Value.str (Str.ofString "_netrclex.get_token") 272, Value.str (Str.ofString "/claim/cut.py") 273, Value.int 72 0, Value.int 1 0, Value.int 0 0, Value.int 0 0, Value.int 3 0, Value.ref 70, Value.bool true, Value.int 181 0, Value.ref 71, Value.none, Value.ref 72, Value.ref 73, Value.ref 74, Value.int 278 0, Value.int 72 0, Value.str (Str.ofString "/claim/cut.py") 279] }
noncomputable abbrev o76 (P : Params) : Obj := { cls := Value.type "function", data := Data.func { name := Str.ofString "get_token", qualname := Str.ofString "_netrclex.get_token", params := pa7_2, body := FuncBody.stmts bd7_2, scope := sc7_2, globals := 3, closure := [], defaults := Value.none, kwdefaults := Value.none, pyModule := Value.str (Str.ofString "cpy313.netrc") 241, code := Value.ref 75 } }
noncomputable abbrev o77 (P : Params) : Obj := { cls := Value.type "tuple", data := Data.seq #[] }
noncomputable abbrev o78 (P : Params) : Obj := { cls := Value.none, data := Data.fields #[] }
noncomputable abbrev o79 (P : Params) : Obj := { cls := Value.type "tuple", data := Data.seq #[Value.str (Str.ofString "self") 284, Value.str (Str.ofString "token") 285] }
noncomputable abbrev o80 (P : Params) : Obj := { cls := Value.type "tuple", data := Data.seq #[] }
noncomputable abbrev o81 (P : Params) : Obj := { cls := Value.none, data := Data.func { name := Str.ofString "push_token", qualname := Str.ofString "_netrclex.push_token", params := pa7_3, body := FuncBody.stmts bd7_3, scope := sc7_3, globals := 0, closure := [], defaults := Value.none, kwdefaults := Value.none } }
noncomputable abbrev o82 (P : Params) : Obj := { cls := Value.type "code", data := Data.fields #[Value.str (Str.ofString "push_token") 281, Value.str (Str.ofString "_netrclex.push_token") 282, Value.str (Str.ofString "/claim/cut.py") 283, Value.int 99 0, Value.int 2 0, Value.int 0 0, Value.int 0 0, Value.int 3 0, Value.ref 77, Value.bool true, Value.int 181 0, Value.ref 78, Value.none, Value.ref 79, Value.ref 80, Value.ref 81, Value.int 286 0, Value.int 99 0, Value.str (Str.ofString "/claim/cut.py") 287] }
noncomputable abbrev o83 (P : Params) : Obj := { cls := Value.type "function", data := Data.func { name := Str.ofString "push_token", qualname := Str.ofString "_netrclex.push_token", params := pa7_3, body := FuncBody.stmts bd7_3, scope := sc7_3, globals := 3, closure := [], defaults := Value.none, kwdefaults := Value.none, pyModule := Value.str (Str.ofString "cpy313.netrc") 241, code := Value.ref 82 } }
noncomputable abbrev o84 (P : Params) : Obj := { cls := Value.type "tuple", data := Data.seq #[Value.str (Str.ofString "instream") 289, Value.str (Str.ofString "lineno") 290, Value.str (Str.ofString "pushback") 291, Value.str (Str.ofString "whitespace") 292] }
noncomputable abbrev o85 (P : Params) : Obj := { cls := Value.type "dict", data := Data.dict #[{ hash := PyData.keyHash P (Str.ofString "__module__"), key := Value.str (Str.ofString "__module__") 250, val := Value.str (Str.ofString "cpy313.netrc") 241 }, { hash := PyData.keyHash P (Str.ofString "__firstlineno__"), key := Value.str (Str.ofString "__firstlineno__") 254, val := Value.int 58 253 }, { hash := PyData.keyHash P (Str.ofString "__init__"), key := Value.str (Str.ofString "__init__") 262, val := Value.ref 62 }, { hash := PyData.keyHash P (Str.ofString "_read_char"), key := Value.str (Str.ofString "_read_char") 270, val := Value.ref 69 }, { hash := PyData.keyHash P (Str.ofString "get_token"), key := Value.str (Str.ofString "get_token") 280, val := Value.ref 76 }, { hash := PyData.keyHash P (Str.ofString "push_token"), key := Value.str (Str.ofString "push_token") 288, val := Value.ref 83 }, { hash := PyData.keyHash P (Str.ofString "__static_attributes__"), key := Value.str (Str.ofString "__static_attributes__") 293, val := Value.ref 84 }, { hash := PyData.keyHash P (Str.ofString "__dict__"), key := Value.str (Str.ofString "__dict__") 295, val := Value.ref 87 }, { hash := PyData.keyHash P (Str.ofString "__weakref__"), key := Value.str (Str.ofString "__weakref__") 297, val := Value.ref 88 }, { hash := PyData.keyHash P (Str.ofString "__doc__"), key := Value.str (Str.ofString "__doc__") 298, val := Value.none }] 4 }
noncomputable abbrev o86 (P : Params) : Obj := { cls := Value.type "type", data := Data.cls { name := Str.ofString "_netrclex", bases := [Value.type "object"], mro := [Value.ref 86, Value.type "object"], ns := 85, qualname := Str.ofString "_netrclex" }, slots := #[none, none, some (Value.str (Str.ofString "_netrclex") 243), some (Value.str (Str.ofString "_netrclex") 251), some (Value.builtin "object.__new__"), some (Value.bool true)] }
noncomputable abbrev o87 (P : Params) : Obj := { cls := Value.type "getset_descriptor", data := Data.fields #[Value.str (Str.ofString "__dict__") 294, Value.ref 86, Value.builtin "function.__dict__", Value.builtin "function.__dict__#set"] }
noncomputable abbrev o88 (P : Params) : Obj := { cls := Value.type "getset_descriptor", data := Data.fields #[Value.str (Str.ofString "__weakref__") 296, Value.ref 86, Value.builtin "ExceptionGroup.__weakref__", Value.none] }
noncomputable abbrev o89 (P : Params) : Obj := { cls := Value.type "super", data := Data.fields #[Value.ref 86, Value.ref 86, Value.ref 86] }
noncomputable abbrev o90 (P : Params) : Obj := { cls := Value.type "builtin_function_or_method", data := Data.fields #[Value.builtin "object.__init_subclass__", Value.ref 86] }
noncomputable def tr1 (P : Params) : BT := (.node (boot_o_0 P) (.node (boot_o_1 P) (.node (o3v2 P) (.node (boot_o_7 P) (.node (o15 P) (.node (o31 P) (.node (o63 P) .nil .nil) .nil) (.node (o47 P) (.node (o79 P) .nil .nil) .nil)) (.node (o23 P) (.node (o39 P) (.node (o71 P) .nil .nil) .nil) (.node (o55 P) (.node (o87 P) .nil .nil) .nil))) (.node (o11 P) (.node (o19 P) (.node (o35 P) (.node (o67 P) .nil .nil) .nil) (.node (o51 P) (.node (o83 P) .nil .nil) .nil)) (.node (o27 P) (.node (o43 P) (.node (o75 P) .nil .nil) .nil) (.node (o59 P) .nil .nil)))) (.node (boot_o_5 P) (.node (boot_o_9 P) (.node (o17 P) (.node (o33 P) (.node (o65 P) .nil .nil) .nil) (.node (o49 P) (.node (o81 P) .nil .nil) .nil)) (.node (o25 P) (.node (o41 P) (.node (o73 P) .nil .nil) .nil) (.node (o57 P) (.node (o89 P) .nil .nil) .nil))) (.node (o13 P) (.node (o21 P) (.node (o37 P) (.node (o69 P) .nil .nil) .nil) (.node (o53 P) (.node (o85 P) .nil .nil) .nil)) (.node (o29 P) (.node (o45 P) (.node (o77 P) .nil .nil) .nil) (.node (o61 P) .nil .nil))))) (.node (boot_o_2 P) (.node (boot_o_4 P) (.node (boot_o_8 P) (.node (o16 P) (.node (o32 P) (.node (o64 P) .nil .nil) .nil) (.node (o48 P) (.node (o80 P) .nil .nil) .nil)) (.node (o24 P) (.node (o40 P) (.node (o72 P) .nil .nil) .nil) (.node (o56 P) (.node (o88 P) .nil .nil) .nil))) (.node (o12v2 P) (.node (o20 P) (.node (o36 P) (.node (o68 P) .nil .nil) .nil) (.node (o52 P) (.node (o84 P) .nil .nil) .nil)) (.node (o28 P) (.node (o44 P) (.node (o76 P) .nil .nil) .nil) (.node (o60 P) .nil .nil)))) (.node (boot_o_6 P) (.node (boot_o_10 P) (.node (o18 P) (.node (o34 P) (.node (o66 P) .nil .nil) .nil) (.node (o50 P) (.node (o82 P) .nil .nil) .nil)) (.node (o26 P) (.node (o42 P) (.node (o74 P) .nil .nil) .nil) (.node (o58 P) (.node (o90 P) .nil .nil) .nil))) (.node (o14 P) (.node (o22 P) (.node (o38 P) (.node (o70 P) .nil .nil) .nil) (.node (o54 P) (.node (o86 P) .nil .nil) .nil)) (.node (o30 P) (.node (o46 P) (.node (o78 P) .nil .nil) .nil) (.node (o62 P) .nil .nil))))))
noncomputable def st1 (w : World) (os : OsState) : SharedT := ⟨tr1 w.params, 91, { }, #[], { }, 303, os⟩
noncomputable abbrev o3v3 (P : Params) : Obj := { cls := Value.type "dict", data := Data.dict #[{ hash := PyData.keyHash P (Str.ofString "__name__"), key := Value.str (Str.ofString "__name__") 165, val := Value.str (Str.ofString "cpy313.stringprep") 301 }, { hash := PyData.keyHash P (Str.ofString "__doc__"), key := Value.str (Str.ofString "__doc__") 166, val := Value.none }, { hash := PyData.keyHash P (Str.ofString "__package__"), key := Value.str (Str.ofString "__package__") 167, val := Value.none }, { hash := PyData.keyHash P (Str.ofString "__loader__"), key := Value.str (Str.ofString "__loader__") 168, val := Value.builtin "__main__.__loader__#opaque" }, { hash := PyData.keyHash P (Str.ofString "__spec__"), key := Value.str (Str.ofString "__spec__") 169, val := Value.none }, { hash := PyData.keyHash P (Str.ofString "__annotations__"), key := Value.str (Str.ofString "__annotations__") 170, val := Value.ref 6 }, { hash := PyData.keyHash P (Str.ofString "__builtins__"), key := Value.str (Str.ofString "__builtins__") 171, val := Value.ref 4 }, { hash := PyData.keyHash P (Str.ofString "__file__"), key := Value.str (Str.ofString "__file__") 173, val := Value.str (Str.ofString "/claim/cut.py") 172 }, { hash := PyData.keyHash P (Str.ofString "__cached__"), key := Value.str (Str.ofString "__cached__") 174, val := Value.none }, { hash := PyData.keyHash P (Str.ofString "insort_right"), key := Value.str (Str.ofString "insort_right") 201, val := Value.ref 23 }, { hash := PyData.keyHash P (Str.ofString "bisect_right"), key := Value.str (Str.ofString "bisect_right") 215, val := Value.ref 32 }, { hash := PyData.keyHash P (Str.ofString "bisect_left"), key := Value.str (Str.ofString "bisect_left") 229, val := Value.ref 41 }, { hash := PyData.keyHash P (Str.ofString "_parse_varint"), key := Value.str (Str.ofString "_parse_varint") 240, val := Value.ref 48 }, { hash := PyData.keyHash P (Str.ofString "_netrclex"), key := Value.str (Str.ofString "_netrclex") 300, val := Value.ref 86 }, { hash := PyData.keyHash P (Str.ofString "b1_set"), key := Value.str (Str.ofString "b1_set") 362, val := Value.ref 98 }] 15 }
noncomputable abbrev o91 (P : Params) : Obj := { cls := Value.type "list", data := Data.seq #[Value.int 173 303, Value.int 847 304, Value.int 6150 305, Value.int 6155 306, Value.int 6156 307, Value.int 6157 308, Value.int 8203 309, Value.int 8204 310, Value.int 8205 311, Value.int 8288 312, Value.int 65279 313] }
noncomputable abbrev o92 (P : Params) : Obj := { cls := Value.type "range", data := Data.fields #[Value.int 65024 314, Value.int 65040 315, Value.int 1 316] }
noncomputable abbrev o93 (P : Params) : Obj := { cls := Value.type "list", data := Data.seq #[Value.int 65024 319, Value.int 65025 320, Value.int 65026 321, Value.int 65027 322, Value.int 65028 323, Value.int 65029 324, Value.int 65030 325, Value.int 65031 326, Value.int 65032 327, Value.int 65033 328, Value.int 65034 329, Value.int 65035 330, Value.int 65036 331, Value.int 65037 332, Value.int 65038 333, Value.int 65039 334] 18 }
noncomputable abbrev o94 (P : Params) : Obj := { cls := Value.type "range_iterator", data := Data.fields #[Value.int 65040 0, Value.int 0 0, Value.int 1 0] }
noncomputable abbrev o95 (P : Params) : Obj := { cls := Value.type "tuple", data := Data.seq #[] }
noncomputable abbrev o96 (P : Params) : Obj := { cls := Value.type "StopIteration", data := Data.fields #[Value.ref 95, Value.none, Value.none, Value.none, Value.bool false, Value.none] }
noncomputable abbrev o97 (P : Params) : Obj := { cls := Value.type "list", data := Data.seq #[Value.int 173 303, Value.int 847 304, Value.int 6150 305, Value.int 6155 306, Value.int 6156 307, Value.int 6157 308, Value.int 8203 309, Value.int 8204 310, Value.int 8205 311, Value.int 8288 312, Value.int 65279 313, Value.int 65024 319, Value.int 65025 320, Value.int 65026 321, Value.int 65027 322, Value.int 65028 323, Value.int 65029 324, Value.int 65030 325, Value.int 65031 326, Value.int 65032 327, Value.int 65033 328, Value.int 65034 329, Value.int 65035 330, Value.int 65036 331, Value.int 65037 332, Value.int 65038 333, Value.int 65039 334] }
noncomputable abbrev o98 (P : Params) : Obj := { cls := Value.type "set", data := Data.set #[(65024, Value.int 65024 319), (65025, Value.int 65025 320), (65026, Value.int 65026 321), (65027, Value.int 65027 322), (65028, Value.int 65028 323), (65029, Value.int 65029 324), (6150, Value.int 6150 305), (65030, Value.int 65030 325), (65031, Value.int 65031 326), (65032, Value.int 65032 327), (65033, Value.int 65033 328), (6155, Value.int 6155 306), (6156, Value.int 6156 307), (6157, Value.int 6157 308), (8203, Value.int 8203 309), (8204, Value.int 8204 310), (8205, Value.int 8205 311), (65034, Value.int 65034 329), (65035, Value.int 65035 330), (65036, Value.int 65036 331), (65037, Value.int 65037 332), (65038, Value.int 65038 333), (65039, Value.int 65039 334), (173, Value.int 173 303), (847, Value.int 847 304), (8288, Value.int 8288 312), (65279, Value.int 65279 313)] 29 { mask := 127, place := #[0, 1, 2, 3, 4, 5, 6, 7, 8, 9, 10, 11, 12, 13, 14, 15, 16, 17, 18, 19, 20, 21, 22, 45, 79, 96, 127], dummies := #[], finger := 0, led := !(P.followText "set-order"), moves := 2, plain := true } }
noncomputable abbrev o99 (P : Params) : Obj := { cls := Value.type "list_iterator", data := Data.fields #[Value.none, Value.int 27 0] }
noncomputable abbrev o100 (P : Params) : Obj := { cls := Value.type "tuple", data := Data.seq #[] }
noncomputable abbrev o101 (P : Params) : Obj := { cls := Value.type "StopIteration", data := Data.fields #[Value.ref 100, Value.none, Value.none, Value.none, Value.bool false, Value.none] }
noncomputable def tr2 (P : Params) : BT := (.node (boot_o_0 P) (.node (boot_o_1 P) (.node (o3v3 P) (.node (boot_o_7 P) (.node (o15 P) (.node (o31 P) (.node (o63 P) .nil .nil) (.node (o95 P) .nil .nil)) (.node (o47 P) (.node (o79 P) .nil .nil) .nil)) (.node (o23 P) (.node (o39 P) (.node (o71 P) .nil .nil) .nil) (.node (o55 P) (.node (o87 P) .nil .nil) .nil))) (.node (o11 P) (.node (o19 P) (.node (o35 P) (.node (o67 P) .nil .nil) (.node (o99 P) .nil .nil)) (.node (o51 P) (.node (o83 P) .nil .nil) .nil)) (.node (o27 P) (.node (o43 P) (.node (o75 P) .nil .nil) .nil) (.node (o59 P) (.node (o91 P) .nil .nil) .nil)))) (.node (boot_o_5 P) (.node (boot_o_9 P) (.node (o17 P) (.node (o33 P) (.node (o65 P) .nil .nil) (.node (o97 P) .nil .nil)) (.node (o49 P) (.node (o81 P) .nil .nil) .nil)) (.node (o25 P) (.node (o41 P) (.node (o73 P) .nil .nil) .nil) (.node (o57 P) (.node (o89 P) .nil .nil) .nil))) (.node (o13 P) (.node (o21 P) (.node (o37 P) (.node (o69 P) .nil .nil) (.node (o101 P) .nil .nil)) (.node (o53 P) (.node (o85 P) .nil .nil) .nil)) (.node (o29 P) (.node (o45 P) (.node (o77 P) .nil .nil) .nil) (.node (o61 P) (.node (o93 P) .nil .nil) .nil))))) (.node (boot_o_2 P) (.node (boot_o_4 P) (.node (boot_o_8 P) (.node (o16 P) (.node (o32 P) (.node (o64 P) .nil .nil) (.node (o96 P) .nil .nil)) (.node (o48 P) (.node (o80 P) .nil .nil) .nil)) (.node (o24 P) (.node (o40 P) (.node (o72 P) .nil .nil) .nil) (.node (o56 P) (.node (o88 P) .nil .nil) .nil))) (.node (o12v2 P) (.node (o20 P) (.node (o36 P) (.node (o68 P) .nil .nil) (.node (o100 P) .nil .nil)) (.node (o52 P) (.node (o84 P) .nil .nil) .nil)) (.node (o28 P) (.node (o44 P) (.node (o76 P) .nil .nil) .nil) (.node (o60 P) (.node (o92 P) .nil .nil) .nil)))) (.node (boot_o_6 P) (.node (boot_o_10 P) (.node (o18 P) (.node (o34 P) (.node (o66 P) .nil .nil) (.node (o98 P) .nil .nil)) (.node (o50 P) (.node (o82 P) .nil .nil) .nil)) (.node (o26 P) (.node (o42 P) (.node (o74 P) .nil .nil) .nil) (.node (o58 P) (.node (o90 P) .nil .nil) .nil))) (.node (o14 P) (.node (o22 P) (.node (o38 P) (.node (o70 P) .nil .nil) .nil) (.node (o54 P) (.node (o86 P) .nil .nil) .nil)) (.node (o30 P) (.node (o46 P) (.node (o78 P) .nil .nil) .nil) (.node (o62 P) (.node (o94 P) .nil .nil) .nil))))))
noncomputable def st2 (w : World) (os : OsState) : SharedT := ⟨tr2 w.params, 102, { }, #[], { }, 363, os⟩
noncomputable abbrev o3v4 (P : Params) : Obj := { cls := Value.type "dict", data := Data.dict #[{ hash := PyData.keyHash P (Str.ofString "__name__"), key := Value.str (Str.ofString "__name__") 165, val := Value.str (Str.ofString "cpy313.stringprep") 301 }, { hash := PyData.keyHash P (Str.ofString "__doc__"), key := Value.str (Str.ofString "__doc__") 166, val := Value.none }, { hash := PyData.keyHash P (Str.ofString "__package__"), key := Value.str (Str.ofString "__package__") 167, val := Value.none }, { hash := PyData.keyHash P (Str.ofString "__loader__"), key := Value.str (Str.ofString "__loader__") 168, val := Value.builtin "__main__.__loader__#opaque" }, { hash := PyData.keyHash P (Str.ofString "__spec__"), key := Value.str (Str.ofString "__spec__") 169, val := Value.none }, { hash := PyData.keyHash P (Str.ofString "__annotations__"), key := Value.str (Str.ofString "__annotations__") 170, val := Value.ref 6 }, { hash := PyData.keyHash P (Str.ofString "__builtins__"), key := Value.str (Str.ofString "__builtins__") 171, val := Value.ref 4 }, { hash := PyData.keyHash P (Str.ofString "__file__"), key := Value.str (Str.ofString "__file__") 173, val := Value.str (Str.ofString "/claim/cut.py") 172 }, { hash := PyData.keyHash P (Str.ofString "__cached__"), key := Value.str (Str.ofString "__cached__") 174, val := Value.none }, { hash := PyData.keyHash P (Str.ofString "insort_right"), key := Value.str (Str.ofString "insort_right") 201, val := Value.ref 23 }, { hash := PyData.keyHash P (Str.ofString "bisect_right"), key := Value.str (Str.ofString "bisect_right") 215, val := Value.ref 32 }, { hash := PyData.keyHash P (Str.ofString "bisect_left"), key := Value.str (Str.ofString "bisect_left") 229, val := Value.ref 41 }, { hash := PyData.keyHash P (Str.ofString "_parse_varint"), key := Value.str (Str.ofString "_parse_varint") 240, val := Value.ref 48 }, { hash := PyData.keyHash P (Str.ofString "_netrclex"), key := Value.str (Str.ofString "_netrclex") 300, val := Value.ref 86 }, { hash := PyData.keyHash P (Str.ofString "b1_set"), key := Value.str (Str.ofString "b1_set") 362, val := Value.ref 98 }, { hash := PyData.keyHash P (Str.ofString "in_table_b1"), key := Value.str (Str.ofString "in_table_b1") 369, val := Value.ref 108 }] 16 }
noncomputable abbrev o12v3 (P : Params) : Obj := { cls := Value.none, data := Data.fields #[Value.int 2 0, Value.int 0 0, Value.ref 22, Value.int 8 0, Value.int 0 0, Value.ref 31, Value.int 28 0, Value.int 0 0, Value.ref 40, Value.int 49 0, Value.int 0 0, Value.ref 47, Value.int 58 0, Value.int 0 0, Value.ref 54, Value.int 103 0, Value.int 0 0, Value.ref 107] }
noncomputable abbrev o102 (P : Params) : Obj := { cls := Value.type "tuple", data := Data.seq #[] }
noncomputable abbrev o103 (P : Params) : Obj := { cls := Value.none, data := Data.fields #[] }
noncomputable abbrev o104 (P : Params) : Obj := { cls := Value.type "tuple", data := Data.seq #[Value.str (Str.ofString "code") 366] }
noncomputable abbrev o105 (P : Params) : Obj := { cls := Value.type "tuple", data := Data.seq #[] }
noncomputable abbrev o106 (P : Params) : Obj := { cls := Value.none, data := Data.func { name := Str.ofString "in_table_b1", qualname := Str.ofString "in_table_b1", params := pa10, body := FuncBody.stmts bd10, scope := sc10, globals := 0, closure := [], defaults := Value.none, kwdefaults := Value.none } }
noncomputable abbrev o107 (P : Params) : Obj := { cls := Value.type "code", data := Data.fields #[Value.str (Str.ofString "in_table_b1") 363, Value.str (Str.ofString "in_table_b1") 364, Value.str (Str.ofString "/claim/cut.py") 365, Value.int 103 0, Value.int 1 0, Value.int 0 0, Value.int 0 0, Value.int 3 0, Value.ref 102, Value.bool true, Value.int 181 0, Value.ref 103, Value.none, Value.ref 104, Value.ref 105, Value.ref 106, Value.int 367 0, Value.int 103 0, Value.str (Str.ofString "/claim/cut.py") 368] }
noncomputable abbrev o108 (P : Params) : Obj := { cls := Value.type "function", data := Data.func { name := Str.ofString "in_table_b1", qualname := Str.ofString "in_table_b1", params := pa10, body := FuncBody.stmts bd10, scope := sc10, globals := 3, closure := [], defaults := Value.none, kwdefaults := Value.none, pyModule := Value.str (Str.ofString "cpy313.stringprep") 301, code := Value.ref 107 } }
noncomputable def tr3 (P : Params) : BT := (.node (boot_o_0 P) (.node (boot_o_1 P) (.node (o3v4 P) (.node (boot_o_7 P) (.node (o15 P) (.node (o31 P) (.node (o63 P) .nil .nil) (.node (o95 P) .nil .nil)) (.node (o47 P) (.node (o79 P) .nil .nil) .nil)) (.node (o23 P) (.node (o39 P) (.node (o71 P) .nil .nil) (.node (o103 P) .nil .nil)) (.node (o55 P) (.node (o87 P) .nil .nil) .nil))) (.node (o11 P) (.node (o19 P) (.node (o35 P) (.node (o67 P) .nil .nil) (.node (o99 P) .nil .nil)) (.node (o51 P) (.node (o83 P) .nil .nil) .nil)) (.node (o27 P) (.node (o43 P) (.node (o75 P) .nil .nil) (.node (o107 P) .nil .nil)) (.node (o59 P) (.node (o91 P) .nil .nil) .nil)))) (.node (boot_o_5 P) (.node (boot_o_9 P) (.node (o17 P) (.node (o33 P) (.node (o65 P) .nil .nil) (.node (o97 P) .nil .nil)) (.node (o49 P) (.node (o81 P) .nil .nil) .nil)) (.node (o25 P) (.node (o41 P) (.node (o73 P) .nil .nil) (.node (o105 P) .nil .nil)) (.node (o57 P) (.node (o89 P) .nil .nil) .nil))) (.node (o13 P) (.node (o21 P) (.node (o37 P) (.node (o69 P) .nil .nil) (.node (o101 P) .nil .nil)) (.node (o53 P) (.node (o85 P) .nil .nil) .nil)) (.node (o29 P) (.node (o45 P) (.node (o77 P) .nil .nil) .nil) (.node (o61 P) (.node (o93 P) .nil .nil) .nil))))) (.node (boot_o_2 P) (.node (boot_o_4 P) (.node (boot_o_8 P) (.node (o16 P) (.node (o32 P) (.node (o64 P) .nil .nil) (.node (o96 P) .nil .nil)) (.node (o48 P) (.node (o80 P) .nil .nil) .nil)) (.node (o24 P) (.node (o40 P) (.node (o72 P) .nil .nil) (.node (o104 P) .nil .nil)) (.node (o56 P) (.node (o88 P) .nil .nil) .nil))) (.node (o12v3 P) (.node (o20 P) (.node (o36 P) (.node (o68 P) .nil .nil) (.node (o100 P) .nil .nil)) (.node (o52 P) (.node (o84 P) .nil .nil) .nil)) (.node (o28 P) (.node (o44 P) (.node (o76 P) .nil .nil) (.node (o108 P) .nil .nil)) (.node (o60 P) (.node (o92 P) .nil .nil) .nil)))) (.node (boot_o_6 P) (.node (boot_o_10 P) (.node (o18 P) (.node (o34 P) (.node (o66 P) .nil .nil) (.node (o98 P) .nil .nil)) (.node (o50 P) (.node (o82 P) .nil .nil) .nil)) (.node (o26 P) (.node (o42 P) (.node (o74 P) .nil .nil) (.node (o106 P) .nil .nil)) (.node (o58 P) (.node (o90 P) .nil .nil) .nil))) (.node (o14 P) (.node (o22 P) (.node (o38 P) (.node (o70 P) .nil .nil) (.node (o102 P) .nil .nil)) (.node (o54 P) (.node (o86 P) .nil .nil) .nil)) (.node (o30 P) (.node (o46 P) (.node (o78 P) .nil .nil) .nil) (.node (o62 P) (.node (o94 P) .nil .nil) .nil))))))
noncomputable def st3 (w : World) (os : OsState) : SharedT := ⟨tr3 w.params, 109, { }, #[], { }, 370, os⟩
noncomputable abbrev o3v5 (P : Params) : Obj := { cls := Value.type "dict", data := Data.dict #[{ hash := PyData.keyHash P (Str.ofString "__name__"), key := Value.str (Str.ofString "__name__") 165, val := Value.str (Str.ofString "cpy313.stringprep") 301 }, { hash := PyData.keyHash P (Str.ofString "__doc__"), key := Value.str (Str.ofString "__doc__") 166, val := Value.none }, { hash := PyData.keyHash P (Str.ofString "__package__"), key := Value.str (Str.ofString "__package__") 167, val := Value.none }, { hash := PyData.keyHash P (Str.ofString "__loader__"), key := Value.str (Str.ofString "__loader__") 168, val := Value.builtin "__main__.__loader__#opaque" }, { hash := PyData.keyHash P (Str.ofString "__spec__"), key := Value.str (Str.ofString "__spec__") 169, val := Value.none }, { hash := PyData.keyHash P (Str.ofString "__annotations__"), key := Value.str (Str.ofString "__annotations__") 170, val := Value.ref 6 }, { hash := PyData.keyHash P (Str.ofString "__builtins__"), key := Value.str (Str.ofString "__builtins__") 171, val := Value.ref 4 }, { hash := PyData.keyHash P (Str.ofString "__file__"), key := Value.str (Str.ofString "__file__") 173, val := Value.str (Str.ofString "/claim/cut.py") 172 }, { hash := PyData.keyHash P (Str.ofString "__cached__"), key := Value.str (Str.ofString "__cached__") 174, val := Value.none }, { hash := PyData.keyHash P (Str.ofString "insort_right"), key := Value.str (Str.ofString "insort_right") 201, val := Value.ref 23 }, { hash := PyData.keyHash P (Str.ofString "bisect_right"), key := Value.str (Str.ofString "bisect_right") 215, val := Value.ref 32 }, { hash := PyData.keyHash P (Str.ofString "bisect_left"), key := Value.str (Str.ofString "bisect_left") 229, val := Value.ref 41 }, { hash := PyData.keyHash P (Str.ofString "_parse_varint"), key := Value.str (Str.ofString "_parse_varint") 240, val := Value.ref 48 }, { hash := PyData.keyHash P (Str.ofString "_netrclex"), key := Value.str (Str.ofString "_netrclex") 300, val := Value.ref 86 }, { hash := PyData.keyHash P (Str.ofString "b1_set"), key := Value.str (Str.ofString "b1_set") 362, val := Value.ref 98 }, { hash := PyData.keyHash P (Str.ofString "in_table_b1"), key := Value.str (Str.ofString "in_table_b1") 369, val := Value.ref 108 }, { hash := PyData.keyHash P (Str.ofString "b3_exceptions"), key := Value.str (Str.ofString "b3_exceptions") 2320, val := Value.ref 109 }] 17 }
noncomputable abbrev o109 (_ : Params) : Obj := dobj b3ents 650
noncomputable def o110 (_ : Params) : Obj := (b3objs[1]?).getD default
noncomputable def o111 (_ : Params) : Obj := (b3objs[2]?).getD default
noncomputable def o112 (_ : Params) : Obj := (b3objs[3]?).getD default
noncomputable def o113 (_ : Params) : Obj := (b3objs[4]?).getD default
noncomputable def o114 (_ : Params) : Obj := (b3objs[5]?).getD default
noncomputable def o115 (_ : Params) : Obj := (b3objs[6]?).getD default
noncomputable def o116 (_ : Params) : Obj := (b3objs[7]?).getD default
noncomputable def o117 (_ : Params) : Obj := (b3objs[8]?).getD default
noncomputable def o118 (_ : Params) : Obj := (b3objs[9]?).getD default
noncomputable def o119 (_ : Params) : Obj := (b3objs[10]?).getD default
noncomputable def o120 (_ : Params) : Obj := (b3objs[11]?).getD default
noncomputable def o121 (_ : Params) : Obj := (b3objs[12]?).getD default
noncomputable def o122 (_ : Params) : Obj := (b3objs[13]?).getD default
noncomputable def o123 (_ : Params) : Obj := (b3objs[14]?).getD default
noncomputable def o124 (_ : Params) : Obj := (b3objs[15]?).getD default
noncomputable def o125 (_ : Params) : Obj := (b3objs[16]?).getD default
noncomputable def o126 (_ : Params) : Obj := (b3objs[17]?).getD default
noncomputable def o127 (_ : Params) : Obj := (b3objs[18]?).getD default
noncomputable def o128 (_ : Params) : Obj := (b3objs[19]?).getD default
noncomputable def o129 (_ : Params) : Obj := (b3objs[20]?).getD default
noncomputable def o130 (_ : Params) : Obj := (b3objs[21]?).getD default
noncomputable def o131 (_ : Params) : Obj := (b3objs[22]?).getD default
noncomputable def o132 (_ : Params) : Obj := (b3objs[23]?).getD default
noncomputable def o133 (_ : Params) : Obj := (b3objs[24]?).getD default
noncomputable def o134 (_ : Params) : Obj := (b3objs[25]?).getD default
noncomputable def o135 (_ : Params) : Obj := (b3objs[26]?).getD default
noncomputable def o136 (_ : Params) : Obj := (b3objs[27]?).getD default
noncomputable def o137 (_ : Params) : Obj := (b3objs[28]?).getD default
noncomputable def o138 (_ : Params) : Obj := (b3objs[29]?).getD default
noncomputable def o139 (_ : Params) : Obj := (b3objs[30]?).getD default
noncomputable def o140 (_ : Params) : Obj := (b3objs[31]?).getD default
noncomputable def o141 (_ : Params) : Obj := (b3objs[32]?).getD default
noncomputable def o142 (_ : Params) : Obj := (b3objs[33]?).getD default
noncomputable def o143 (_ : Params) : Obj := (b3objs[34]?).getD default
noncomputable def o144 (_ : Params) : Obj := (b3objs[35]?).getD default
noncomputable def o145 (_ : Params) : Obj := (b3objs[36]?).getD default
noncomputable def o146 (_ : Params) : Obj := (b3objs[37]?).getD default
noncomputable def o147 (_ : Params) : Obj := (b3objs[38]?).getD default
noncomputable def tr4 (P : Params) : BT := (.node (boot_o_0 P) (.node (boot_o_1 P) (.node (o3v5 P) (.node (boot_o_7 P) (.node (o15 P) (.node (o31 P) (.node (o63 P) (.node (o127 P) .nil .nil) .nil) (.node (o95 P) .nil .nil)) (.node (o47 P) (.node (o79 P) (.node (o143 P) .nil .nil) .nil) (.node (o111 P) .nil .nil))) (.node (o23 P) (.node (o39 P) (.node (o71 P) (.node (o135 P) .nil .nil) .nil) (.node (o103 P) .nil .nil)) (.node (o55 P) (.node (o87 P) .nil .nil) (.node (o119 P) .nil .nil)))) (.node (o11 P) (.node (o19 P) (.node (o35 P) (.node (o67 P) (.node (o131 P) .nil .nil) .nil) (.node (o99 P) .nil .nil)) (.node (o51 P) (.node (o83 P) (.node (o147 P) .nil .nil) .nil) (.node (o115 P) .nil .nil))) (.node (o27 P) (.node (o43 P) (.node (o75 P) (.node (o139 P) .nil .nil) .nil) (.node (o107 P) .nil .nil)) (.node (o59 P) (.node (o91 P) .nil .nil) (.node (o123 P) .nil .nil))))) (.node (boot_o_5 P) (.node (boot_o_9 P) (.node (o17 P) (.node (o33 P) (.node (o65 P) (.node (o129 P) .nil .nil) .nil) (.node (o97 P) .nil .nil)) (.node (o49 P) (.node (o81 P) (.node (o145 P) .nil .nil) .nil) (.node (o113 P) .nil .nil))) (.node (o25 P) (.node (o41 P) (.node (o73 P) (.node (o137 P) .nil .nil) .nil) (.node (o105 P) .nil .nil)) (.node (o57 P) (.node (o89 P) .nil .nil) (.node (o121 P) .nil .nil)))) (.node (o13 P) (.node (o21 P) (.node (o37 P) (.node (o69 P) (.node (o133 P) .nil .nil) .nil) (.node (o101 P) .nil .nil)) (.node (o53 P) (.node (o85 P) .nil .nil) (.node (o117 P) .nil .nil))) (.node (o29 P) (.node (o45 P) (.node (o77 P) (.node (o141 P) .nil .nil) .nil) (.node (o109 P) .nil .nil)) (.node (o61 P) (.node (o93 P) .nil .nil) (.node (o125 P) .nil .nil)))))) (.node (boot_o_2 P) (.node (boot_o_4 P) (.node (boot_o_8 P) (.node (o16 P) (.node (o32 P) (.node (o64 P) (.node (o128 P) .nil .nil) .nil) (.node (o96 P) .nil .nil)) (.node (o48 P) (.node (o80 P) (.node (o144 P) .nil .nil) .nil) (.node (o112 P) .nil .nil))) (.node (o24 P) (.node (o40 P) (.node (o72 P) (.node (o136 P) .nil .nil) .nil) (.node (o104 P) .nil .nil)) (.node (o56 P) (.node (o88 P) .nil .nil) (.node (o120 P) .nil .nil)))) (.node (o12v3 P) (.node (o20 P) (.node (o36 P) (.node (o68 P) (.node (o132 P) .nil .nil) .nil) (.node (o100 P) .nil .nil)) (.node (o52 P) (.node (o84 P) .nil .nil) (.node (o116 P) .nil .nil))) (.node (o28 P) (.node (o44 P) (.node (o76 P) (.node (o140 P) .nil .nil) .nil) (.node (o108 P) .nil .nil)) (.node (o60 P) (.node (o92 P) .nil .nil) (.node (o124 P) .nil .nil))))) (.node (boot_o_6 P) (.node (boot_o_10 P) (.node (o18 P) (.node (o34 P) (.node (o66 P) (.node (o130 P) .nil .nil) .nil) (.node (o98 P) .nil .nil)) (.node (o50 P) (.node (o82 P) (.node (o146 P) .nil .nil) .nil) (.node (o114 P) .nil .nil))) (.node (o26 P) (.node (o42 P) (.node (o74 P) (.node (o138 P) .nil .nil) .nil) (.node (o106 P) .nil .nil)) (.node (o58 P) (.node (o90 P) .nil .nil) (.node (o122 P) .nil .nil)))) (.node (o14 P) (.node (o22 P) (.node (o38 P) (.node (o70 P) (.node (o134 P) .nil .nil) .nil) (.node (o102 P) .nil .nil)) (.node (o54 P) (.node (o86 P) .nil .nil) (.node (o118 P) .nil .nil))) (.node (o30 P) (.node (o46 P) (.node (o78 P) (.node (o142 P) .nil .nil) .nil) (.node (o110 P) .nil .nil)) (.node (o62 P) (.node (o94 P) .nil .nil) (.node (o126 P) .nil .nil)))))))
noncomputable def st4 (w : World) (os : OsState) : SharedT := ⟨tr4 w.params, 148, { }, #[], { }, 2321, os⟩
noncomputable abbrev o3v6 (P : Params) : Obj := { cls := Value.type "dict", data := Data.dict #[{ hash := PyData.keyHash P (Str.ofString "__name__"), key := Value.str (Str.ofString "__name__") 165, val := Value.str (Str.ofString "law_us0019_01") 2329 }, { hash := PyData.keyHash P (Str.ofString "__doc__"), key := Value.str (Str.ofString "__doc__") 166, val := Value.none }, { hash := PyData.keyHash P (Str.ofString "__package__"), key := Value.str (Str.ofString "__package__") 167, val := Value.none }, { hash := PyData.keyHash P (Str.ofString "__loader__"), key := Value.str (Str.ofString "__loader__") 168, val := Value.builtin "__main__.__loader__#opaque" }, { hash := PyData.keyHash P (Str.ofString "__spec__"), key := Value.str (Str.ofString "__spec__") 169, val := Value.none }, { hash := PyData.keyHash P (Str.ofString "__annotations__"), key := Value.str (Str.ofString "__annotations__") 170, val := Value.ref 6 }, { hash := PyData.keyHash P (Str.ofString "__builtins__"), key := Value.str (Str.ofString "__builtins__") 171, val := Value.ref 4 }, { hash := PyData.keyHash P (Str.ofString "__file__"), key := Value.str (Str.ofString "__file__") 173, val := Value.str (Str.ofString "/claim/cut.py") 172 }, { hash := PyData.keyHash P (Str.ofString "__cached__"), key := Value.str (Str.ofString "__cached__") 174, val := Value.none }, { hash := PyData.keyHash P (Str.ofString "insort_right"), key := Value.str (Str.ofString "insort_right") 201, val := Value.ref 23 }, { hash := PyData.keyHash P (Str.ofString "bisect_right"), key := Value.str (Str.ofString "bisect_right") 215, val := Value.ref 32 }, { hash := PyData.keyHash P (Str.ofString "bisect_left"), key := Value.str (Str.ofString "bisect_left") 229, val := Value.ref 41 }, { hash := PyData.keyHash P (Str.ofString "_parse_varint"), key := Value.str (Str.ofString "_parse_varint") 240, val := Value.ref 48 }, { hash := PyData.keyHash P (Str.ofString "_netrclex"), key := Value.str (Str.ofString "_netrclex") 300, val := Value.ref 86 }, { hash := PyData.keyHash P (Str.ofString "b1_set"), key := Value.str (Str.ofString "b1_set") 362, val := Value.ref 98 }, { hash := PyData.keyHash P (Str.ofString "in_table_b1"), key := Value.str (Str.ofString "in_table_b1") 369, val := Value.ref 108 }, { hash := PyData.keyHash P (Str.ofString "b3_exceptions"), key := Value.str (Str.ofString "b3_exceptions") 2320, val := Value.ref 109 }, { hash := PyData.keyHash P (Str.ofString "map_table_b3"), key := Value.str (Str.ofString "map_table_b3") 2328, val := Value.ref 154 }, { hash := PyData.keyHash P (Str.ofString "_law_stream"), key := Value.str (Str.ofString "_law_stream") 2340, val := Value.ref 161 }, { hash := PyData.keyHash P (Str.ofString "_law_plain"), key := Value.str (Str.ofString "_law_plain") 2347, val := Value.ref 168 }, { hash := PyData.keyHash P (Str.ofString "_law_written"), key := Value.str (Str.ofString "_law_written") 2353, val := Value.ref 173 }, { hash := PyData.keyHash P (Str.ofString "_law_words"), key := Value.str (Str.ofString "_law_words") 2359, val := Value.ref 178 }, { hash := PyData.keyHash P (Str.ofString "_law_row"), key := Value.str (Str.ofString "_law_row") 2370, val := Value.ref 185 }, { hash := PyData.keyHash P (Str.ofString "_law_pieces"), key := Value.str (Str.ofString "_law_pieces") 2388, val := Value.ref 192 }, { hash := PyData.keyHash P (Str.ofString "_law_octets"), key := Value.str (Str.ofString "_law_octets") 2396, val := Value.ref 199 }, { hash := PyData.keyHash P (Str.ofString "_law_again"), key := Value.str (Str.ofString "_law_again") 2410, val := Value.ref 206 }, { hash := PyData.keyHash P (Str.ofString "_law_farthest"), key := Value.str (Str.ofString "_law_farthest") 2416, val := Value.ref 211 }, { hash := PyData.keyHash P (Str.ofString "law"), key := Value.str (Str.ofString "law") 2422, val := Value.ref 216 }] 28 }
noncomputable abbrev o12v4 (P : Params) : Obj := { cls := Value.none, data := Data.fields #[Value.int 2 0, Value.int 0 0, Value.ref 22, Value.int 8 0, Value.int 0 0, Value.ref 31, Value.int 28 0, Value.int 0 0, Value.ref 40, Value.int 49 0, Value.int 0 0, Value.ref 47, Value.int 58 0, Value.int 0 0, Value.ref 54, Value.int 103 0, Value.int 0 0, Value.ref 107, Value.int 106 0, Value.int 0 0, Value.ref 153, Value.int 112 0, Value.int 0 0, Value.ref 160, Value.int 120 0, Value.int 0 0, Value.ref 167, Value.int 122 0, Value.int 0 0, Value.ref 172, Value.int 140 0, Value.int 0 0, Value.ref 177, Value.int 147 0, Value.int 0 0, Value.ref 184, Value.int 156 0, Value.int 0 0, Value.ref 191, Value.int 177 0, Value.int 0 0, Value.ref 198, Value.int 183 0, Value.int 0 0, Value.ref 205, Value.int 195 0, Value.int 0 0, Value.ref 210, Value.int 209 0, Value.int 0 0, Value.ref 215] }
noncomputable abbrev o148 (P : Params) : Obj := { cls := Value.type "tuple", data := Data.seq #[] }
noncomputable abbrev o149 (P : Params) : Obj := { cls := Value.none, data := Data.fields #[] }
noncomputable abbrev o150 (P : Params) : Obj := { cls := Value.type "tuple", data := Data.seq #[Value.str (Str.ofString "code") 2324, Value.str (Str.ofString "r") 2325] }
noncomputable abbrev o151 (P : Params) : Obj := { cls := Value.type "tuple", data := Data.seq #[] }
noncomputable abbrev o152 (P : Params) : Obj := { cls := Value.none, data := Data.func { name := Str.ofString "map_table_b3", qualname := Str.ofString "map_table_b3", params := pa12, body := FuncBody.stmts bd12, scope := sc12, globals := 0, closure := [], defaults := Value.none, kwdefaults := Value.none } }
noncomputable abbrev o153 (P : Params) : Obj := { cls := Value.type "code", data := Data.fields #[Value.str (Str.ofString "map_table_b3") 2321, Value.str (Str.ofString "map_table_b3") 2322, Value.str (Str.ofString "/claim/cut.py") 2323, Value.int 106 0, Value.int 1 0, Value.int 0 0, Value.int 0 0, Value.int 3 0, Value.ref 148, Value.bool true, Value.int 181 0, Value.ref 149, Value.none, Value.ref 150, Value.ref 151, Value.ref 152, Value.int 2326 0, Value.int 106 0, Value.str (Str.ofString "/claim/cut.py") 2327] }
noncomputable abbrev o154 (P : Params) : Obj := { cls := Value.type "function", data := Data.func { name := Str.ofString "map_table_b3", qualname := Str.ofString "map_table_b3", params := pa12, body := FuncBody.stmts bd12, scope := sc12, globals := 3, closure := [], defaults := Value.none, kwdefaults := Value.none, pyModule := Value.str (Str.ofString "cpy313.stringprep") 301, code := Value.ref 153 } }
noncomputable abbrev o155 (P : Params) : Obj := { cls := Value.type "tuple", data := Data.seq #[] }
noncomputable abbrev o156 (P : Params) : Obj := { cls := Value.none, data := Data.fields #[] }
noncomputable abbrev o157 (P : Params) : Obj := { cls := Value.type "tuple", data := Data.seq #[Value.str (Str.ofString "text") 2334, Value.str (Str.ofString "_law_read") 2335, Value.str (Str.ofString "stream") 2336] }
noncomputable abbrev o158 (P : Params) : Obj := { cls := Value.type "tuple", data := Data.seq #[Value.str (Str.ofString "signs") 2337] }
noncomputable abbrev o159 (P : Params) : Obj := { cls := Value.none, data := Data.func { name := Str.ofString "_law_stream", qualname := Str.ofString "_law_stream", params := pa14, body := FuncBody.stmts bd14, scope := sc14, globals := 0, closure := [], defaults := Value.none, kwdefaults := Value.none } }
noncomputable abbrev o160 (P : Params) : Obj := { cls := Value.type "code", data := Data.fields #[Value.str (Str.ofString "_law_stream") 2331, Value.str (Str.ofString "_law_stream") 2332, Value.str (Str.ofString "/claim/cut.py") 2333, Value.int 112 0, Value.int 1 0, Value.int 0 0, Value.int 0 0, Value.int 3 0, Value.ref 155, Value.bool true, Value.int 181 0, Value.ref 156, Value.none, Value.ref 157, Value.ref 158, Value.ref 159, Value.int 2338 0, Value.int 112 0, Value.str (Str.ofString "/claim/cut.py") 2339] }
noncomputable abbrev o161 (P : Params) : Obj := { cls := Value.type "function", data := Data.func { name := Str.ofString "_law_stream", qualname := Str.ofString "_law_stream", params := pa14, body := FuncBody.stmts bd14, scope := sc14, globals := 3, closure := [], defaults := Value.none, kwdefaults := Value.none, pyModule := Value.str (Str.ofString "law_us0019_01") 2329, code := Value.ref 160 } }
noncomputable abbrev o162 (P : Params) : Obj := { cls := Value.type "tuple", data := Data.seq #[] }
noncomputable abbrev o163 (P : Params) : Obj := { cls := Value.none, data := Data.fields #[] }
noncomputable abbrev o164 (P : Params) : Obj := { cls := Value.type "tuple", data := Data.seq #[Value.str (Str.ofString "number") 2344] }
noncomputable abbrev o165 (P : Params) : Obj := { cls := Value.type "tuple", data := Data.seq #[] }
noncomputable abbrev o166 (P : Params) : Obj := { cls := Value.none, data := Data.func { name := Str.ofString "_law_plain", qualname := Str.ofString "_law_plain", params := pa15, body := FuncBody.stmts bd15, scope := sc15, globals := 0, closure := [], defaults := Value.none, kwdefaults := Value.none } }
noncomputable abbrev o167 (P : Params) : Obj := { cls := Value.type "code", data := Data.fields #[Value.str (Str.ofString "_law_plain") 2341, Value.str (Str.ofString "_law_plain") 2342, Value.str (Str.ofString "/claim/cut.py") 2343, Value.int 120 0, Value.int 1 0, Value.int 0 0, Value.int 0 0, Value.int 3 0, Value.ref 162, Value.bool true, Value.int 181 0, Value.ref 163, Value.none, Value.ref 164, Value.ref 165, Value.ref 166, Value.int 2345 0, Value.int 120 0, Value.str (Str.ofString "/claim/cut.py") 2346] }
noncomputable abbrev o168 (P : Params) : Obj := { cls := Value.type "function", data := Data.func { name := Str.ofString "_law_plain", qualname := Str.ofString "_law_plain", params := pa15, body := FuncBody.stmts bd15, scope := sc15, globals := 3, closure := [], defaults := Value.none, kwdefaults := Value.none, pyModule := Value.str (Str.ofString "law_us0019_01") 2329, code := Value.ref 167 } }
noncomputable abbrev o169 (P : Params) : Obj := { cls := Value.type "tuple", data := Data.seq #[] }
noncomputable abbrev o170 (P : Params) : Obj := { cls := Value.none, data := Data.fields #[] }
noncomputable abbrev o171 (P : Params) : Obj := { cls := Value.none, data := Data.func { name := Str.ofString "_law_written", qualname := Str.ofString "_law_written", params := pa16, body := FuncBody.stmts bd16, scope := sc16, globals := 0, closure := [], defaults := Value.none, kwdefaults := Value.none } }
noncomputable abbrev o172 (P : Params) : Obj := { cls := Value.type "code", data := Data.fields #[Value.str (Str.ofString "_law_written") 2348, Value.str (Str.ofString "_law_written") 2349, Value.str (Str.ofString "/claim/cut.py") 2350, Value.int 122 0, Value.int 1 0, Value.int 0 0, Value.int 0 0, Value.int 3 0, Value.ref 169, Value.bool true, Value.int 181 0, Value.ref 170, Value.none, Value.none, Value.none, Value.ref 171, Value.int 2351 0, Value.int 122 0, Value.str (Str.ofString "/claim/cut.py") 2352] }
noncomputable abbrev o173 (P : Params) : Obj := { cls := Value.type "function", data := Data.func { name := Str.ofString "_law_written", qualname := Str.ofString "_law_written", params := pa16, body := FuncBody.stmts bd16, scope := sc16, globals := 3, closure := [], defaults := Value.none, kwdefaults := Value.none, pyModule := Value.str (Str.ofString "law_us0019_01") 2329, code := Value.ref 172 } }
noncomputable abbrev o174 (P : Params) : Obj := { cls := Value.type "tuple", data := Data.seq #[] }
noncomputable abbrev o175 (P : Params) : Obj := { cls := Value.none, data := Data.fields #[] }
noncomputable abbrev o176 (P : Params) : Obj := { cls := Value.none, data := Data.func { name := Str.ofString "_law_words", qualname := Str.ofString "_law_words", params := pa17, body := FuncBody.stmts bd17, scope := sc17, globals := 0, closure := [], defaults := Value.none, kwdefaults := Value.none } }
noncomputable abbrev o177 (P : Params) : Obj := { cls := Value.type "code", data := Data.fields #[Value.str (Str.ofString "_law_words") 2354, Value.str (Str.ofString "_law_words") 2355, Value.str (Str.ofString "/claim/cut.py") 2356, Value.int 140 0, Value.int 1 0, Value.int 0 0, Value.int 0 0, Value.int 3 0, Value.ref 174, Value.bool true, Value.int 181 0, Value.ref 175, Value.none, Value.none, Value.none, Value.ref 176, Value.int 2357 0, Value.int 140 0, Value.str (Str.ofString "/claim/cut.py") 2358] }
noncomputable abbrev o178 (P : Params) : Obj := { cls := Value.type "function", data := Data.func { name := Str.ofString "_law_words", qualname := Str.ofString "_law_words", params := pa17, body := FuncBody.stmts bd17, scope := sc17, globals := 3, closure := [], defaults := Value.none, kwdefaults := Value.none, pyModule := Value.str (Str.ofString "law_us0019_01") 2329, code := Value.ref 177 } }
noncomputable abbrev o179 (P : Params) : Obj := { cls := Value.type "tuple", data := Data.seq #[] }
noncomputable abbrev o180 (P : Params) : Obj := { cls := Value.none, data := Data.fields #[] }
noncomputable abbrev o181 (P : Params) : Obj := { cls := Value.type "tuple", data := Data.seq #[Value.str (Str.ofString "words") 2363, Value.str (Str.ofString "lexer") 2364, Value.str (Str.ofString "names") 2365, Value.str (Str.ofString "row") 2366, Value.str (Str.ofString "word") 2367] }
noncomputable abbrev o182 (P : Params) : Obj := { cls := Value.type "tuple", data := Data.seq #[] }
noncomputable abbrev o183 (P : Params) : Obj := { cls := Value.none, data := Data.func { name := Str.ofString "_law_row", qualname := Str.ofString "_law_row", params := pa18, body := FuncBody.stmts bd18, scope := sc18, globals := 0, closure := [], defaults := Value.none, kwdefaults := Value.none } }
noncomputable abbrev o184 (P : Params) : Obj := { cls := Value.type "code", data := Data.fields #[Value.str (Str.ofString "_law_row") 2360, Value.str (Str.ofString "_law_row") 2361, Value.str (Str.ofString "/claim/cut.py") 2362, Value.int 147 0, Value.int 2 0, Value.int 0 0, Value.int 0 0, Value.int 3 0, Value.ref 179, Value.bool true, Value.int 181 0, Value.ref 180, Value.none, Value.ref 181, Value.ref 182, Value.ref 183, Value.int 2368 0, Value.int 147 0, Value.str (Str.ofString "/claim/cut.py") 2369] }
noncomputable abbrev o185 (P : Params) : Obj := { cls := Value.type "function", data := Data.func { name := Str.ofString "_law_row", qualname := Str.ofString "_law_row", params := pa18, body := FuncBody.stmts bd18, scope := sc18, globals := 3, closure := [], defaults := Value.none, kwdefaults := Value.none, pyModule := Value.str (Str.ofString "law_us0019_01") 2329, code := Value.ref 184 } }
noncomputable abbrev o186 (P : Params) : Obj := { cls := Value.type "tuple", data := Data.seq #[] }
noncomputable abbrev o187 (P : Params) : Obj := { cls := Value.none, data := Data.fields #[] }
noncomputable abbrev o188 (P : Params) : Obj := { cls := Value.type "tuple", data := Data.seq #[Value.str (Str.ofString "row") 2374, Value.str (Str.ofString "_law_end") 2375, Value.str (Str.ofString "order") 2376, Value.str (Str.ofString "pieces") 2377, Value.str (Str.ofString "place") 2378, Value.str (Str.ofString "at") 2379, Value.str (Str.ofString "size") 2380, Value.str (Str.ofString "back") 2381, Value.str (Str.ofString "other") 2382, Value.str (Str.ofString "same") 2383, Value.str (Str.ofString "step") 2384] }
noncomputable abbrev o189 (P : Params) : Obj := { cls := Value.type "tuple", data := Data.seq #[Value.str (Str.ofString "row") 2385] }
noncomputable abbrev o190 (P : Params) : Obj := { cls := Value.none, data := Data.func { name := Str.ofString "_law_pieces", qualname := Str.ofString "_law_pieces", params := pa19, body := FuncBody.stmts bd19, scope := sc19, globals := 0, closure := [], defaults := Value.none, kwdefaults := Value.none } }
noncomputable abbrev o191 (P : Params) : Obj := { cls := Value.type "code", data := Data.fields #[Value.str (Str.ofString "_law_pieces") 2371, Value.str (Str.ofString "_law_pieces") 2372, Value.str (Str.ofString "/claim/cut.py") 2373, Value.int 156 0, Value.int 1 0, Value.int 0 0, Value.int 0 0, Value.int 3 0, Value.ref 186, Value.bool true, Value.int 181 0, Value.ref 187, Value.none, Value.ref 188, Value.ref 189, Value.ref 190, Value.int 2386 0, Value.int 156 0, Value.str (Str.ofString "/claim/cut.py") 2387] }
noncomputable abbrev o192 (P : Params) : Obj := { cls := Value.type "function", data := Data.func { name := Str.ofString "_law_pieces", qualname := Str.ofString "_law_pieces", params := pa19, body := FuncBody.stmts bd19, scope := sc19, globals := 3, closure := [], defaults := Value.none, kwdefaults := Value.none, pyModule := Value.str (Str.ofString "law_us0019_01") 2329, code := Value.ref 191 } }
noncomputable abbrev o193 (P : Params) : Obj := { cls := Value.type "tuple", data := Data.seq #[] }
noncomputable abbrev o194 (P : Params) : Obj := { cls := Value.none, data := Data.fields #[] }
noncomputable abbrev o195 (P : Params) : Obj := { cls := Value.type "tuple", data := Data.seq #[Value.str (Str.ofString "number") 2392, Value.str (Str.ofString "octets") 2393] }
noncomputable abbrev o196 (P : Params) : Obj := { cls := Value.type "tuple", data := Data.seq #[] }
noncomputable abbrev o197 (P : Params) : Obj := { cls := Value.none, data := Data.func { name := Str.ofString "_law_octets", qualname := Str.ofString "_law_octets", params := pa20, body := FuncBody.stmts bd20, scope := sc20, globals := 0, closure := [], defaults := Value.none, kwdefaults := Value.none } }
noncomputable abbrev o198 (P : Params) : Obj := { cls := Value.type "code", data := Data.fields #[Value.str (Str.ofString "_law_octets") 2389, Value.str (Str.ofString "_law_octets") 2390, Value.str (Str.ofString "/claim/cut.py") 2391, Value.int 177 0, Value.int 1 0, Value.int 0 0, Value.int 0 0, Value.int 3 0, Value.ref 193, Value.bool true, Value.int 181 0, Value.ref 194, Value.none, Value.ref 195, Value.ref 196, Value.ref 197, Value.int 2394 0, Value.int 177 0, Value.str (Str.ofString "/claim/cut.py") 2395] }
noncomputable abbrev o199 (P : Params) : Obj := { cls := Value.type "function", data := Data.func { name := Str.ofString "_law_octets", qualname := Str.ofString "_law_octets", params := pa20, body := FuncBody.stmts bd20, scope := sc20, globals := 3, closure := [], defaults := Value.none, kwdefaults := Value.none, pyModule := Value.str (Str.ofString "law_us0019_01") 2329, code := Value.ref 198 } }
noncomputable abbrev o200 (P : Params) : Obj := { cls := Value.type "tuple", data := Data.seq #[] }
noncomputable abbrev o201 (P : Params) : Obj := { cls := Value.none, data := Data.fields #[] }
noncomputable abbrev o202 (P : Params) : Obj := { cls := Value.type "tuple", data := Data.seq #[Value.str (Str.ofString "tape") 2400, Value.str (Str.ofString "base") 2401, Value.str (Str.ofString "lexer") 2402, Value.str (Str.ofString "octets") 2403, Value.str (Str.ofString "again") 2404, Value.str (Str.ofString "size") 2405, Value.str (Str.ofString "back") 2406, Value.str (Str.ofString "step") 2407] }
noncomputable abbrev o203 (P : Params) : Obj := { cls := Value.type "tuple", data := Data.seq #[] }
noncomputable abbrev o204 (P : Params) : Obj := { cls := Value.none, data := Data.func { name := Str.ofString "_law_again", qualname := Str.ofString "_law_again", params := pa21, body := FuncBody.stmts bd21, scope := sc21, globals := 0, closure := [], defaults := Value.none, kwdefaults := Value.none } }
noncomputable abbrev o205 (P : Params) : Obj := { cls := Value.type "code", data := Data.fields #[Value.str (Str.ofString "_law_again") 2397, Value.str (Str.ofString "_law_again") 2398, Value.str (Str.ofString "/claim/cut.py") 2399, Value.int 183 0, Value.int 3 0, Value.int 0 0, Value.int 0 0, Value.int 3 0, Value.ref 200, Value.bool true, Value.int 181 0, Value.ref 201, Value.none, Value.ref 202, Value.ref 203, Value.ref 204, Value.int 2408 0, Value.int 183 0, Value.str (Str.ofString "/claim/cut.py") 2409] }
noncomputable abbrev o206 (P : Params) : Obj := { cls := Value.type "function", data := Data.func { name := Str.ofString "_law_again", qualname := Str.ofString "_law_again", params := pa21, body := FuncBody.stmts bd21, scope := sc21, globals := 3, closure := [], defaults := Value.none, kwdefaults := Value.none, pyModule := Value.str (Str.ofString "law_us0019_01") 2329, code := Value.ref 205 } }
noncomputable abbrev o207 (P : Params) : Obj := { cls := Value.type "tuple", data := Data.seq #[] }
noncomputable abbrev o208 (P : Params) : Obj := { cls := Value.none, data := Data.fields #[] }
noncomputable abbrev o209 (P : Params) : Obj := { cls := Value.none, data := Data.func { name := Str.ofString "_law_farthest", qualname := Str.ofString "_law_farthest", params := pa22, body := FuncBody.stmts bd22, scope := sc22, globals := 0, closure := [], defaults := Value.none, kwdefaults := Value.none } }
noncomputable abbrev o210 (P : Params) : Obj := { cls := Value.type "code", data := Data.fields #[Value.str (Str.ofString "_law_farthest") 2411, Value.str (Str.ofString "_law_farthest") 2412, Value.str (Str.ofString "/claim/cut.py") 2413, Value.int 195 0, Value.int 1 0, Value.int 0 0, Value.int 0 0, Value.int 3 0, Value.ref 207, Value.bool true, Value.int 181 0, Value.ref 208, Value.none, Value.none, Value.none, Value.ref 209, Value.int 2414 0, Value.int 195 0, Value.str (Str.ofString "/claim/cut.py") 2415] }
noncomputable abbrev o211 (P : Params) : Obj := { cls := Value.type "function", data := Data.func { name := Str.ofString "_law_farthest", qualname := Str.ofString "_law_farthest", params := pa22, body := FuncBody.stmts bd22, scope := sc22, globals := 3, closure := [], defaults := Value.none, kwdefaults := Value.none, pyModule := Value.str (Str.ofString "law_us0019_01") 2329, code := Value.ref 210 } }
noncomputable abbrev o212 (P : Params) : Obj := { cls := Value.type "tuple", data := Data.seq #[] }
noncomputable abbrev o213 (P : Params) : Obj := { cls := Value.none, data := Data.fields #[] }
noncomputable abbrev o214 (P : Params) : Obj := { cls := Value.none, data := Data.func { name := Str.ofString "law", qualname := Str.ofString "law", params := pa23, body := FuncBody.stmts bd23, scope := sc23, globals := 0, closure := [], defaults := Value.none, kwdefaults := Value.none } }
noncomputable abbrev o215 (P : Params) : Obj := { cls := Value.type "code", data := Data.fields #[Value.str (Str.ofString "law") 2417, Value.str (Str.ofString "law") 2418, Value.str (Str.ofString "/claim/cut.py") 2419, Value.int 209 0, Value.int 1 0, Value.int 0 0, Value.int 0 0, Value.int 3 0, Value.ref 212, Value.bool true, Value.int 181 0, Value.ref 213, Value.none, Value.none, Value.none, Value.ref 214, Value.int 2420 0, Value.int 209 0, Value.str (Str.ofString "/claim/cut.py") 2421] }
noncomputable abbrev o216 (P : Params) : Obj := { cls := Value.type "function", data := Data.func { name := Str.ofString "law", qualname := Str.ofString "law", params := pa23, body := FuncBody.stmts bd23, scope := sc23, globals := 3, closure := [], defaults := Value.none, kwdefaults := Value.none, pyModule := Value.str (Str.ofString "law_us0019_01") 2329, code := Value.ref 215 } }
noncomputable def tr5 (P : Params) : BT := (.node (boot_o_0 P) (.node (boot_o_1 P) (.node (o3v6 P) (.node (boot_o_7 P) (.node (o15 P) (.node (o31 P) (.node (o63 P) (.node (o127 P) .nil .nil) (.node (o191 P) .nil .nil)) (.node (o95 P) (.node (o159 P) .nil .nil) .nil)) (.node (o47 P) (.node (o79 P) (.node (o143 P) .nil .nil) (.node (o207 P) .nil .nil)) (.node (o111 P) (.node (o175 P) .nil .nil) .nil))) (.node (o23 P) (.node (o39 P) (.node (o71 P) (.node (o135 P) .nil .nil) (.node (o199 P) .nil .nil)) (.node (o103 P) (.node (o167 P) .nil .nil) .nil)) (.node (o55 P) (.node (o87 P) (.node (o151 P) .nil .nil) (.node (o215 P) .nil .nil)) (.node (o119 P) (.node (o183 P) .nil .nil) .nil)))) (.node (o11 P) (.node (o19 P) (.node (o35 P) (.node (o67 P) (.node (o131 P) .nil .nil) (.node (o195 P) .nil .nil)) (.node (o99 P) (.node (o163 P) .nil .nil) .nil)) (.node (o51 P) (.node (o83 P) (.node (o147 P) .nil .nil) (.node (o211 P) .nil .nil)) (.node (o115 P) (.node (o179 P) .nil .nil) .nil))) (.node (o27 P) (.node (o43 P) (.node (o75 P) (.node (o139 P) .nil .nil) (.node (o203 P) .nil .nil)) (.node (o107 P) (.node (o171 P) .nil .nil) .nil)) (.node (o59 P) (.node (o91 P) (.node (o155 P) .nil .nil) .nil) (.node (o123 P) (.node (o187 P) .nil .nil) .nil))))) (.node (boot_o_5 P) (.node (boot_o_9 P) (.node (o17 P) (.node (o33 P) (.node (o65 P) (.node (o129 P) .nil .nil) (.node (o193 P) .nil .nil)) (.node (o97 P) (.node (o161 P) .nil .nil) .nil)) (.node (o49 P) (.node (o81 P) (.node (o145 P) .nil .nil) (.node (o209 P) .nil .nil)) (.node (o113 P) (.node (o177 P) .nil .nil) .nil))) (.node (o25 P) (.node (o41 P) (.node (o73 P) (.node (o137 P) .nil .nil) (.node (o201 P) .nil .nil)) (.node (o105 P) (.node (o169 P) .nil .nil) .nil)) (.node (o57 P) (.node (o89 P) (.node (o153 P) .nil .nil) .nil) (.node (o121 P) (.node (o185 P) .nil .nil) .nil)))) (.node (o13 P) (.node (o21 P) (.node (o37 P) (.node (o69 P) (.node (o133 P) .nil .nil) (.node (o197 P) .nil .nil)) (.node (o101 P) (.node (o165 P) .nil .nil) .nil)) (.node (o53 P) (.node (o85 P) (.node (o149 P) .nil .nil) (.node (o213 P) .nil .nil)) (.node (o117 P) (.node (o181 P) .nil .nil) .nil))) (.node (o29 P) (.node (o45 P) (.node (o77 P) (.node (o141 P) .nil .nil) (.node (o205 P) .nil .nil)) (.node (o109 P) (.node (o173 P) .nil .nil) .nil)) (.node (o61 P) (.node (o93 P) (.node (o157 P) .nil .nil) .nil) (.node (o125 P) (.node (o189 P) .nil .nil) .nil)))))) (.node (boot_o_2 P) (.node (boot_o_4 P) (.node (boot_o_8 P) (.node (o16 P) (.node (o32 P) (.node (o64 P) (.node (o128 P) .nil .nil) (.node (o192 P) .nil .nil)) (.node (o96 P) (.node (o160 P) .nil .nil) .nil)) (.node (o48 P) (.node (o80 P) (.node (o144 P) .nil .nil) (.node (o208 P) .nil .nil)) (.node (o112 P) (.node (o176 P) .nil .nil) .nil))) (.node (o24 P) (.node (o40 P) (.node (o72 P) (.node (o136 P) .nil .nil) (.node (o200 P) .nil .nil)) (.node (o104 P) (.node (o168 P) .nil .nil) .nil)) (.node (o56 P) (.node (o88 P) (.node (o152 P) .nil .nil) (.node (o216 P) .nil .nil)) (.node (o120 P) (.node (o184 P) .nil .nil) .nil)))) (.node (o12v4 P) (.node (o20 P) (.node (o36 P) (.node (o68 P) (.node (o132 P) .nil .nil) (.node (o196 P) .nil .nil)) (.node (o100 P) (.node (o164 P) .nil .nil) .nil)) (.node (o52 P) (.node (o84 P) (.node (o148 P) .nil .nil) (.node (o212 P) .nil .nil)) (.node (o116 P) (.node (o180 P) .nil .nil) .nil))) (.node (o28 P) (.node (o44 P) (.node (o76 P) (.node (o140 P) .nil .nil) (.node (o204 P) .nil .nil)) (.node (o108 P) (.node (o172 P) .nil .nil) .nil)) (.node (o60 P) (.node (o92 P) (.node (o156 P) .nil .nil) .nil) (.node (o124 P) (.node (o188 P) .nil .nil) .nil))))) (.node (boot_o_6 P) (.node (boot_o_10 P) (.node (o18 P) (.node (o34 P) (.node (o66 P) (.node (o130 P) .nil .nil) (.node (o194 P) .nil .nil)) (.node (o98 P) (.node (o162 P) .nil .nil) .nil)) (.node (o50 P) (.node (o82 P) (.node (o146 P) .nil .nil) (.node (o210 P) .nil .nil)) (.node (o114 P) (.node (o178 P) .nil .nil) .nil))) (.node (o26 P) (.node (o42 P) (.node (o74 P) (.node (o138 P) .nil .nil) (.node (o202 P) .nil .nil)) (.node (o106 P) (.node (o170 P) .nil .nil) .nil)) (.node (o58 P) (.node (o90 P) (.node (o154 P) .nil .nil) .nil) (.node (o122 P) (.node (o186 P) .nil .nil) .nil)))) (.node (o14 P) (.node (o22 P) (.node (o38 P) (.node (o70 P) (.node (o134 P) .nil .nil) (.node (o198 P) .nil .nil)) (.node (o102 P) (.node (o166 P) .nil .nil) .nil)) (.node (o54 P) (.node (o86 P) (.node (o150 P) .nil .nil) (.node (o214 P) .nil .nil)) (.node (o118 P) (.node (o182 P) .nil .nil) .nil))) (.node (o30 P) (.node (o46 P) (.node (o78 P) (.node (o142 P) .nil .nil) (.node (o206 P) .nil .nil)) (.node (o110 P) (.node (o174 P) .nil .nil) .nil)) (.node (o62 P) (.node (o94 P) (.node (o158 P) .nil .nil) .nil) (.node (o126 P) (.node (o190 P) .nil .nil) .nil)))))))
noncomputable def st5 (w : World) (os : OsState) : SharedT := ⟨tr5 w.params, 217, { }, #[], { }, 2423, os⟩
noncomputable def K01 : Params → Frag := fun P => (nat_lit 2, boot_o_2 P) :: (nat_lit 3, o3v6 P) :: (nat_lit 15, o15 P) :: (nat_lit 16, o16 P) :: (nat_lit 17, o17 P) :: (nat_lit 19, o19 P) :: (nat_lit 20, o20 P) :: (nat_lit 22, o22 P) :: (nat_lit 23, o23 P) :: (nat_lit 24, o24 P) :: (nat_lit 25, o25 P) :: (nat_lit 26, o26 P) :: (nat_lit 28, o28 P) :: (nat_lit 29, o29 P) :: (nat_lit 31, o31 P) :: (nat_lit 32, o32 P) :: (nat_lit 33, o33 P) :: (nat_lit 34, o34 P) :: (nat_lit 35, o35 P) :: (nat_lit 37, o37 P) :: (nat_lit 38, o38 P) :: (nat_lit 40, o40 P) :: (nat_lit 41, o41 P) :: (nat_lit 42, o42 P) :: (nat_lit 44, o44 P) :: (nat_lit 45, o45 P) :: (nat_lit 47, o47 P) :: (nat_lit 48, o48 P) :: (nat_lit 56, o56 P) :: (nat_lit 58, o58 P) :: (nat_lit 59, o59 P) :: (nat_lit 61, o61 P) :: (nat_lit 62, o62 P) :: (nat_lit 63, o63 P) :: (nat_lit 65, o65 P) :: (nat_lit 66, o66 P) :: (nat_lit 68, o68 P) :: (nat_lit 69, o69 P) :: (nat_lit 70, o70 P) :: (nat_lit 72, o72 P) :: (nat_lit 73, o73 P) :: (nat_lit 75, o75 P) :: (nat_lit 76, o76 P) :: (nat_lit 77, o77 P) :: (nat_lit 79, o79 P) :: (nat_lit 80, o80 P) :: (nat_lit 82, o82 P) :: (nat_lit 83, o83 P) :: (nat_lit 84, o84 P) :: (nat_lit 85, o85 P) :: (nat_lit 86, o86 P) :: (nat_lit 87, o87 P) :: (nat_lit 88, o88 P) :: (nat_lit 98, o98 P) :: (nat_lit 102, o102 P) :: (nat_lit 104, o104 P) :: (nat_lit 105, o105 P) :: (nat_lit 107, o107 P) :: (nat_lit 108, o108 P) :: (nat_lit 109, o109 P) :: (nat_lit 148, o148 P) :: (nat_lit 150, o150 P) :: (nat_lit 151, o151 P) :: (nat_lit 153, o153 P) :: (nat_lit 154, o154 P) :: (nat_lit 155, o155 P) :: (nat_lit 157, o157 P) :: (nat_lit 158, o158 P) :: (nat_lit 160, o160 P) :: (nat_lit 161, o161 P) :: (nat_lit 162, o162 P) :: (nat_lit 164, o164 P) :: (nat_lit 165, o165 P) :: (nat_lit 167, o167 P) :: (nat_lit 168, o168 P) :: (nat_lit 169, o169 P) :: (nat_lit 172, o172 P) :: (nat_lit 173, o173 P) :: (nat_lit 174, o174 P) :: (nat_lit 177, o177 P) :: (nat_lit 178, o178 P) :: (nat_lit 179, o179 P) :: (nat_lit 181, o181 P) :: (nat_lit 182, o182 P) :: (nat_lit 184, o184 P) :: (nat_lit 185, o185 P) :: (nat_lit 186, o186 P) :: (nat_lit 188, o188 P) :: (nat_lit 189, o189 P) :: (nat_lit 191, o191 P) :: (nat_lit 192, o192 P) :: (nat_lit 193, o193 P) :: (nat_lit 195, o195 P) :: (nat_lit 196, o196 P) :: (nat_lit 198, o198 P) :: (nat_lit 199, o199 P) :: (nat_lit 200, o200 P) :: (nat_lit 202, o202 P) :: (nat_lit 203, o203 P) :: (nat_lit 205, o205 P) :: (nat_lit 206, o206 P) :: (nat_lit 207, o207 P) :: (nat_lit 210, o210 P) :: (nat_lit 211, o211 P) :: (nat_lit 212, o212 P) :: (nat_lit 215, o215 P) :: (nat_lit 216, o216 P) :: []
noncomputable def as01 : List Nat := [nat_lit 2, nat_lit 3, nat_lit 15, nat_lit 16, nat_lit 17, nat_lit 19, nat_lit 20, nat_lit 22, nat_lit 23, nat_lit 24, nat_lit 25, nat_lit 26, nat_lit 28, nat_lit 29, nat_lit 31, nat_lit 32, nat_lit 33, nat_lit 34, nat_lit 35, nat_lit 37, nat_lit 38, nat_lit 40, nat_lit 41, nat_lit 42, nat_lit 44, nat_lit 45, nat_lit 47, nat_lit 48, nat_lit 56, nat_lit 58, nat_lit 59, nat_lit 61, nat_lit 62, nat_lit 63, nat_lit 65, nat_lit 66, nat_lit 68, nat_lit 69, nat_lit 70, nat_lit 72, nat_lit 73, nat_lit 75, nat_lit 76, nat_lit 77, nat_lit 79, nat_lit 80, nat_lit 82, nat_lit 83, nat_lit 84, nat_lit 85, nat_lit 86, nat_lit 87, nat_lit 88, nat_lit 98, nat_lit 102, nat_lit 104, nat_lit 105, nat_lit 107, nat_lit 108, nat_lit 109, nat_lit 148, nat_lit 150, nat_lit 151, nat_lit 153, nat_lit 154, nat_lit 155, nat_lit 157, nat_lit 158, nat_lit 160, nat_lit 161, nat_lit 162, nat_lit 164, nat_lit 165, nat_lit 167, nat_lit 168, nat_lit 169, nat_lit 172, nat_lit 173, nat_lit 174, nat_lit 177, nat_lit 178, nat_lit 179, nat_lit 181, nat_lit 182, nat_lit 184, nat_lit 185, nat_lit 186, nat_lit 188, nat_lit 189, nat_lit 191, nat_lit 192, nat_lit 193, nat_lit 195, nat_lit 196, nat_lit 198, nat_lit 199, nat_lit 200, nat_lit 202, nat_lit 203, nat_lit 205, nat_lit 206, nat_lit 207, nat_lit 210, nat_lit 211, nat_lit 212, nat_lit 215, nat_lit 216]
/- steps: pre 12 block 0 fin 1; pieces [9, 40, 41, 41, 9, 31, 9, 323, 9, 998, 29, 12524, 30, 9, 32, 29, 26, 26, 33, 40, 30, 36, 26, 26]; code PySem.Value.ref 13 frame 14 q { line := 0, col := 0, endLine := 0, endCol := 0 } ann some (PySem.Value.ref 6); b3 109 148 370; positions { line := 0, col := 0, endLine := 0, endCol := 0 } { line := 0, col := 0, endLine := 0, endCol := 0 } [{ line := 1, col := 0, endLine := 1, endCol := 8 }, { line := 2, col := 0, endLine := 7, endCol := 19 }, { line := 8, col := 0, endLine := 27, endCol := 13 }, { line := 28, col := 0, endLine := 47, endCol := 13 }, { line := 48, col := 0, endLine := 48, endCol := 8 }, { line := 49, col := 0, endLine := 56, endCol := 14 }, { line := 57, col := 0, endLine := 57, endCol := 8 }, { line := 58, col := 0, endLine := 100, endCol := 35 }, { line := 101, col := 0, endLine := 101, endCol := 8 }, { line := 102, col := 0, endLine := 102, endCol := 6 }, { line := 103, col := 0, endLine := 104, endCol := 30 }, { line := 105, col := 0, endLine := 105, endCol := 13 }, { line := 106, col := 0, endLine := 110, endCol := 23 }, { line := 111, col := 0, endLine := 111, endCol := 8 }, { line := 112, col := 0, endLine := 119, endCol := 17 }, { line := 120, col := 0, endLine := 121, endCol := 42 }, { line := 122, col := 0, endLine := 139, endCol := 46 }, { line := 140, col := 0, endLine := 146, endCol := 16 }, { line := 147, col := 0, endLine := 155, endCol := 14 }, { line := 156, col := 0, endLine := 176, endCol := 17 }, { line := 177, col := 0, endLine := 182, endCol := 17 }, { line := 183, col := 0, endLine := 194, endCol := 20 }, { line := 195, col := 0, endLine := 208, endCol := 15 }, { line := 209, col := 0, endLine := 220, endCol := 152 }] -/
end
end
section
set_option maxRecDepth 100000
theorem q_segRunT : @segRunT = Fast.tw10110043849684766642 := Fast.te10110043849684766642
theorem q_segRun : @segRun = Fast.tw14374325043358763698 := Fast.te14374325043358763698
theorem q_topGo : @topGo = Fast.tw15667345088766844465 := Fast.te15667345088766844465
theorem q_topRun : @topRun = Fast.tw14082659384304107361 := Fast.te14082659384304107361
theorem q_table : @treeTable = Fast.tw14364793385576792824 := Fast.te14364793385576792824
theorem q_execs : @execs = Fast.tw12563942051412417395 := Fast.te12563942051412417395
theorem q_denote : @denote = Fast.tw11892475500146522536 := Fast.te11892475500146522536
noncomputable def envT : Env := { scope := P1.main.scope, locals := mainNs, globals := mainNs, cells := [], code := .ref 13, frame := some 14 }
noncomputable def codeT : Code := .body (behindTheImports P1) envT
noncomputable def annT : Option Value := some (.ref 6)
noncomputable abbrev pos0 : Pos := ⟨0, 0, 0, 0⟩
noncomputable abbrev B0 : List Frame := [topFrame pos0]
theorem head_pre (w : World) : (fun os => topGo treeTable P1 w 11 annT 12 ⟨boot_heap w.params, #[], boot_drawn, boot_toks, os⟩ (topStub P1)) = fun os => some (stA w os, ⟨denote treeTable codeT, codeT, pos0, B0⟩) := by
  rw [q_topGo, q_table, q_denote]
  kernel_rfl
theorem head_block (w : World) : (fun os => segRun treeTable P1 w 11 annT 1 1 (stA w os) (blockOf (behindTheImports P1) envT codeT pos0 B0)) = fun os => some (.next, (stb w os).abs, codeT, pos0) := by
  rw [q_segRun, q_table]
  kernel_rfl
noncomputable def seg0 : List Stmt := (behindTheImports P1).take 7
theorem head_seg0 (w : World) : (fun os => segRunT treeTable P1 w 11 annT 1 205 (stb w os) (piecesOf seg0 envT codeT pos0 B0)) = fun os => some (.next, st0 w os, codeT, ⟨57, 0, 57, 8⟩) := by
  rw [q_segRunT, q_table]
  kernel_rfl
theorem head_seg1 (w : World) : (fun os => segRunT treeTable P1 w 11 annT 1 333 (st0 w os) (piecesOf (((behindTheImports P1).drop 7).take 2) envT codeT ⟨57, 0, 57, 8⟩ B0)) = fun os => some (.next, st1 w os, codeT, ⟨101, 0, 101, 8⟩) := by
  rw [q_segRunT, q_table]
  kernel_rfl
theorem head_seg3 (w : World) : (fun os => segRunT treeTable P1 w 11 annT 1 30 (st2 w os) (piecesOf (((behindTheImports P1).drop 10).take 1) envT codeT ⟨102, 0, 102, 6⟩ B0)) = fun os => some (.next, st3 w os, codeT, ⟨103, 0, 104, 30⟩) := by
  rw [q_segRunT, q_table]
  kernel_rfl
theorem head_seg5 (w : World) : (fun os => segRunT treeTable P1 w 11 annT 1 400 (st4 w os) (piecesOf (((behindTheImports P1).drop 12).take 12) envT codeT ⟨105, 0, 105, 13⟩ B0)) = fun os => some (.next, st5 w os, codeT, ⟨209, 0, 220, 152⟩) := by
  rw [q_segRunT, q_table]
  kernel_rfl
end
section
set_option maxRecDepth 100000
set_option tactic.hygienic false
noncomputable section
theorem segRun_mono {tb : String → Option Builtin} {p : Program} {w : World} {n₀ : Nat} {ann : Option Value} {b : Nat} {r : Flow × Shared × Code × Pos} (k : Nat) : ∀ (n : Nat) (s : Shared) (t : Thread), segRun tb p w n₀ ann b n s t = some r → segRun tb p w n₀ ann b (n + k) s t = some r
  | 0, _, _, h => by simp [segRun] at h
  | n + 1, s, t, h => by
    rw [show n + 1 + k = n + k + 1 by omega]
    unfold segRun at h ⊢
    cases he : endAt b t with
    | some x => rw [he] at h; exact h
    | none =>
      rw [he] at h
      cases hk : stepOk n₀ ann t with
      | false => rw [hk] at h; cases h
      | true =>
        rw [hk] at h
        cases hs : step (denote tb) p w s t with
        | halt o s' => rw [hs] at h; cases h
        | go s' t' => rw [hs] at h; exact segRun_mono k n s' t' h
theorem wrap_bind {α β γ : Type} (m : Sem α) (f : α → Sem β) (K : β → Sem γ) (H : Value → Sem γ) : (m >>= f).wrap K H id id = m.wrap (fun a => (f a).wrap K H id id) H id id := by
  rw [Sem.bind_eq_wrap', Sem.wrap_wrap]
  rfl
theorem seg_of_runs {p : Program} {w : World} {n₀ : Nat} {ann : Option Value} {α : Type} {b : Nat} {m : Sem α} {s s' : Shared} {q q' : Pos} {a : α} (h : Runs p w n₀ ann b m s q a s' q') {K : α → Sem PySem.Fin} {H : Value → Sem PySem.Fin} {c : Code} {fr : Frame} {N : Nat} {r : Flow × Shared × Code × Pos}
    (hk : segRun treeTable p w n₀ ann 1 N s' ⟨K a, c, q', [fr]⟩ = some r) : segRun treeTable p w n₀ ann 1 (b + N) s ⟨m.wrap K H id id, c, q, [fr]⟩ = some r := by
  obtain ⟨n, hle, hn⟩ := h.go
  have := seg_go (hn K H id id c [fr] (by simp)) hk
  have := segRun_mono (b - n) _ _ _ this
  rw [show n + N + (b - n) = b + N by omega] at this
  exact this
noncomputable def insAll : BT → Nat → List Obj → BT
  | t, _, [] => t
  | t, n, o :: l => insAll (t.ins n o) (n + 1) l
noncomputable def insOk : BT → Nat → List Obj → Bool
  | _, _, [] => true
  | t, n, o :: l => match ((t.ins n o).get n).isSome with
    | true => insOk (t.ins n o) (n + 1) l
    | false => false
theorem ext_ins : ∀ (l : List Obj) (t : BT) (n : Nat) (life : Life), insOk t n l = true → ext (absHeap t n life) l = absHeap (insAll t n l) (n + l.length) life
  | [], t, n, life, _ => by rw [ext_nil]; rfl
  | o :: l, t, n, life, h => by
    unfold insOk at h
    split at h
    · rename_i hs
      have e : ext (absHeap t n life) (o :: l) = ext ((absHeap t n life).push o) l := by
        have := ext_push (absHeap t n life) [] o
        rw [ext_nil] at this
        rw [this]
        unfold ext
        simp [Array.append_assoc]
      rw [e, ← absHeap_ins hs, ext_ins l _ _ _ h]
      show _ = absHeap (insAll (t.ins n o) (n + 1) l) (n + (l.length + 1)) life
      rw [show n + 1 + l.length = n + (l.length + 1) by omega]
    · cases h
theorem b3_split : b3kv = b3c0 ++ (b3cs.flatten ++ b3lc) := by kernel_rfl
noncomputable def b3st : Stmt := stm 11
noncomputable def b3val : Stmt → PySem.Expr
  | .Assign _ v _ => v
  | _ => default
noncomputable def b3tgt : Stmt → List PySem.Expr
  | .Assign t _ _ => t
  | _ => default
noncomputable def b3pos : Pos := ⟨105, 0, 105, 13⟩
end
end
section
set_option maxRecDepth 100000
noncomputable section
noncomputable def dictKeys : PySem.Expr → List (Option PySem.Expr)
  | .Dict k _ _ => k
  | _ => []
noncomputable def dictVals : PySem.Expr → List PySem.Expr
  | .Dict _ v _ => v
  | _ => []
noncomputable def b3T : List PySem.Expr := b3tgt (stm 11)
noncomputable def b3E : PySem.Expr := b3val (stm 11)
noncomputable abbrev dpos : Pos := ⟨105, 16, 105, 8704⟩
noncomputable abbrev apos : Pos := ⟨105, 0, 105, 8704⟩
theorem b3_stm : stm 11 = .Assign b3T (.Dict (dictKeys b3E) (dictVals b3E) dpos) apos := by kernel_rfl
theorem b3_items : (evalEachOpt (dictKeys b3E) envT).zip ((evalEach (dictVals b3E) envT).map fun v => do let x ← v; standAt dpos; pure x) = b3kv.map (itemS dpos) := by kernel_rfl
theorem b3_swaps : swapsWithSole b3T (.Dict (dictKeys b3E) (dictVals b3E) dpos) apos.line envT = pure false := by kernel_rfl
noncomputable def b3post (v : Value) : Sem Flow := do
  let sw ← swappedStores b3T (.Dict (dictKeys b3E) (dictVals b3E) dpos) envT
  assignStores envT v sw ((assignEach b3T envT).map (·.2))
theorem b3_exec : exec (stm 11) envT = ((do standAt apos; standAt dpos; dictDisplay (b3kv.map (itemS dpos))) >>= b3post) := by
  rw [b3_stm, arm_exec_Assign, b3_swaps, arm_eval_Dict, b3_items]
  simp only [bind_assoc, pure_bind]
  rfl
theorem b3_execs : execs (((behindTheImports P1).drop 11).take 1) envT = execs [stm 11] envT := by
  have : ((behindTheImports P1).drop 11).take 1 = [stm 11] := by kernel_rfl
  rw [this]
theorem b3_nodup : (hashes b3kv).Nodup := by
  have h : ((hashes b3kv).zip ((hashes b3kv).drop 1)).all (fun y => decide (y.1 < y.2)) = true := by kernel_rfl
  have go : ∀ l : List Int, (l.zip (l.drop 1)).all (fun y => decide (y.1 < y.2)) = true → l.Pairwise (· < ·) := by
    intro l
    induction l with
    | nil => intro _; exact .nil
    | cons a l ih =>
      intro h
      cases l with
      | nil => exact List.pairwise_singleton _ _
      | cons b l =>
        simp only [List.drop_succ_cons, List.drop_zero, List.zip_cons_cons, List.all_cons, Bool.and_eq_true, decide_eq_true_eq] at h
        have ih' := ih (by simpa using h.2)
        refine List.pairwise_cons.mpr ⟨fun x hx => ?_, ih'⟩
        rcases List.mem_cons.mp hx with rfl | hx
        · exact h.1
        · exact Int.lt_trans h.1 ((List.pairwise_cons.mp ih').1 x hx)
  exact (go _ h).imp (fun h => Int.ne_of_lt h)
end
end
section
set_option maxRecDepth 100000
noncomputable section
noncomputable def tail11 (v : Value) : Sem PySem.Fin := (b3post v >>= fun f => match f with | .next => pure .next | f => pure f : Sem Flow).wrap doneF deadEnd id id
theorem b3_thread : (execs [stm 11] envT).wrap doneF deadEnd id id = (do standAt apos; standAt dpos; dictDisplay (b3kv.map (itemS dpos)) : Sem Value).wrap (fun v => (b3post v).wrap (fun f => match f with | .next => doneF .next | f => doneF f) deadEnd id id) deadEnd id id := by
  rw [execs_cons_wrap, b3_exec, wrap_bind]
  congr 1
theorem b3_behind (w : World) : (fun os => segRunT treeTable P1 w 11 annT 1 60 (⟨insAll (tr3 w.params) 109 b3objs, 109 + 39, { }, #[], { }, 370 + 3 * 650, os⟩ : SharedT)
    ⟨(b3post (.ref 109)).wrap (fun f => match f with | .next => doneF .next | f => doneF f) deadEnd id id, codeT, dpos, B0⟩) = fun os => some (.next, st4 w os, codeT, ⟨105, 0, 105, 13⟩) := by
  rw [q_segRunT, q_table]
  kernel_rfl
theorem b3_ok (P : Params) : insOk (tr3 P) 109 b3objs = true := by kernel_rfl
theorem b3_len : (b3c0 ++ (b3cs.flatten ++ b3lc)).length = 650 := by kernel_rfl
theorem b3_len1 : (b3c0 ++ b3cs.flatten).length = 646 := by kernel_rfl
theorem b3_len0 : b3c0.length = 17 := by kernel_rfl
theorem b3_lenl : b3lc.length = 4 := by kernel_rfl
theorem b3_lencs : b3cs.length = 37 := by kernel_rfl
theorem b3_each : ∀ c ∈ b3cs, c.length = 17 := by
  have h : b3cs.all (fun c => c.length == 17) = true := by kernel_rfl
  intro c hc
  exact beq_iff_eq.mp (List.all_eq_true.mp h c hc)
theorem b3_olen : b3objs.length = 39 := by kernel_rfl
theorem state_gen {T T' : BT} {k n t u : Nat} {L : List Obj} {os : OsState} (e : ext (absHeap T k { }) L = absHeap T' n { }) : st (SharedT.abs ⟨T, k, { }, #[], { }, u, os⟩) L t = SharedT.abs ⟨T', n, { }, #[], { }, t, os⟩ := by
  unfold st SharedT.abs
  dsimp only
  rw [e]
theorem b3_ext (P : Params) : ext (absHeap (tr3 P) 109 { }) b3objs = absHeap (insAll (tr3 P) 109 b3objs) (109 + 39) { } := by
  have e := ext_ins b3objs (tr3 P) 109 { } (b3_ok _)
  rw [b3_olen] at e
  exact e
theorem b3_state (w : World) (os : OsState) (L : List Obj) (t : Nat) (hL : L = b3objs) (ht : t = 370 + 3 * 650) : st ((st3 w os).abs) L t = SharedT.abs ⟨insAll (tr3 w.params) 109 b3objs, 109 + 39, { }, #[], { }, 370 + 3 * 650, os⟩ := by
  rw [hL, ht]
  unfold st3
  exact state_gen (b3_ext w.params)
theorem b3_runs (w : World) (os : OsState) : Runs P1 w 11 annT 12520 (do standAt apos; standAt dpos; dictDisplay (b3kv.map (itemS dpos))) ((st3 w os).abs) ⟨103, 0, 104, 30⟩ (.ref 109)
    (SharedT.abs ⟨insAll (tr3 w.params) 109 b3objs, 109 + 39, { }, #[], { }, 370 + 3 * 650, os⟩) dpos := by
  have hS : ((st3 w os).abs).heap.objs.size = 109 := absHeap_size _ _ _
  have hT : ((st3 w os).abs).toks = 370 := rfl
  have hd := runs_display (p := P1) (w := w) (n₀ := 11) (ann := annT) (q := dpos) (s := (st3 w os).abs) b3c0 b3cs b3lc (by rw [hS]; decide) (fun k => by
      rw [hS]
      have : ¬ (109 + k = sysModules) := by show ¬ (109 + k = 1); omega
      simpa using this) b3_len0 b3_each (by intro h; have := b3_lenl; rw [h] at this; cases this) (by rw [b3_lenl]; decide) (by rw [← b3_split]; exact b3_nodup) (by rw [b3_len]; decide)
  rw [b3_len, b3_len1, b3_len0, b3_lenl, b3_lencs, hS, hT, ← b3_split, b3_state w os _ _ (by kernel_rfl) rfl] at hd
  exact Runs.bind (b₁ := 1) (a := ()) (.at (b := 0) .pure) (Runs.bind (b₁ := 1) (a := ()) (.at (b := 0) .pure) (hd.mono (by omega)))
theorem head_seg4 (w : World) (os : OsState) : segRun treeTable P1 w 11 annT 1 (12520 + 60) ((st3 w os).abs) (piecesOf (((behindTheImports P1).drop 11).take 1) envT codeT ⟨103, 0, 104, 30⟩ B0) = some (.next, (st4 w os).abs, codeT, ⟨105, 0, 105, 13⟩) := by
  unfold piecesOf
  rw [b3_execs, b3_thread]
  exact seg_of_runs (b3_runs w os) (segRun_of (congrFun (b3_behind w) os))
end
end
section
set_option maxRecDepth 100000
noncomputable section
noncomputable def eq9 (w : World) : Prop := (fun os => segRunT treeTable P1 w 11 annT 1 999 (st1 w os) (piecesOf (((behindTheImports P1).drop 9).take 1) envT codeT ⟨101, 0, 101, 8⟩ B0)) = fun os => some (.next, st2 w os, codeT, ⟨102, 0, 102, 6⟩)
theorem head_seg2ff (w : World) : eq9 ((w.withFollow "special-get-raises" false).withFollow "set-order" false) := by
  unfold eq9
  rw [q_segRunT, q_table]
  kernel_rfl
theorem head_seg2ft (w : World) : eq9 ((w.withFollow "special-get-raises" false).withFollow "set-order" true) := by
  unfold eq9
  rw [q_segRunT, q_table]
  kernel_rfl
theorem head_seg2tf (w : World) : eq9 ((w.withFollow "special-get-raises" true).withFollow "set-order" false) := by
  unfold eq9
  rw [q_segRunT, q_table]
  kernel_rfl
theorem head_seg2tt (w : World) : eq9 ((w.withFollow "special-get-raises" true).withFollow "set-order" true) := by
  unfold eq9
  rw [q_segRunT, q_table]
  kernel_rfl
theorem head_seg2 : ∀ w : World, eq9 w :=
  byRow2 "set-order" (byRow2 "special-get-raises" (P := fun w => eq9 (w.withFollow "set-order" false)) head_seg2ff head_seg2tf) (byRow2 "special-get-raises" (P := fun w => eq9 (w.withFollow "set-order" true)) head_seg2ft head_seg2tt)
end
end
section
set_option maxRecDepth 100000
noncomputable section
theorem b_split : behindTheImports P1 = seg0 ++ (((behindTheImports P1).drop 7).take 2 ++ (((behindTheImports P1).drop 9).take 1 ++ (((behindTheImports P1).drop 10).take 1 ++ (((behindTheImports P1).drop 11).take 1 ++ (((behindTheImports P1).drop 12).take 12 ++ []))))) := by kernel_rfl
theorem head_fin (w : World) (os : OsState) : topRun treeTable P1 w 11 annT 2 ((st5 w os).abs) ⟨doneF .next, codeT, ⟨209, 0, 220, 152⟩, B0⟩ = some ((st5 w os).abs) := by
  have : (fun os => topRun treeTable P1 w 11 annT 2 ((st5 w os).abs) ⟨doneF .next, codeT, ⟨209, 0, 220, 152⟩, B0⟩) = fun os => some ((st5 w os).abs) := by
    rw [q_topRun, q_table]
    kernel_rfl
  exact congrFun this os
noncomputable def headM : Nat := 12 + (1 + (205 + (333 + (999 + (30 + (12520 + 60 + (400 + 2)))))))
theorem head_run (w : World) (os : OsState) : topRun treeTable P1 w 11 annT headM ⟨boot_heap w.params, #[], boot_drawn, boot_toks, os⟩ (topStub P1) = some ((st5 w os).abs) := by
  have k6 := piece_app (rest := []) (segRun_of (congrFun (head_seg5 w) os)) (piece_nil (env := envT) (head_fin w os))
  have k5 := piece_app (head_seg4 w os) k6
  have k4 := piece_app (segRun_of (congrFun (head_seg3 w) os)) k5
  have k3 := piece_app (segRun_of (congrFun (head_seg2 w) os)) k4
  have k2 := piece_app (segRun_of (congrFun (head_seg1 w) os)) k3
  have k1 := piece_app (segRun_of (congrFun (head_seg0 w) os)) k2
  rw [← b_split] at k1
  have k0 := piece_block (congrFun (head_block w) os) k1
  exact go_top (congrFun (head_pre w) os) k0
end
end
section
set_option maxRecDepth 100000
noncomputable section
def keep01 : List Nat := [5, 7, 9, 10, 12, 14, 15, 16, 17, 18, 19, 20, 21, 22, 23]
def view01 : Program := { PySem.Challenge.pw_us0019_01 with main := { PySem.Challenge.pw_us0019_01.main with body := keep01.filterMap (PySem.Challenge.pw_us0019_01.main.body[·]?) } }
def loose01 : List PySem.Str := [PySem.Str.ofString "insort_right", PySem.Str.ofString "bisect_right", PySem.Str.ofString "bisect_left", PySem.Str.ofString "b1_set", PySem.Str.ofString "b3_exceptions"]
abbrev R1 : OpenRow := PySem.Challenge.rw_us0019_01.row
def hook01 : Hook := kHook K01 as01 (fun _ => by kernel_rfl)
def Xt01 (s : Shared) : Bool := xlAt view01 [] s && recOk (RowW.records R1.toRowW) s
theorem q_openSeen : @openSeen = Fast.tw4187177175401517315 := Fast.te4187177175401517315
theorem q_imported : @importedModules = Fast.tw5923862056798008813 := Fast.te5923862056798008813
theorem head_open : ∀ w : World, (fencedOpening treeTable P1 w headM).map (fun s => (s.heap, s.gens, s.drawn, s.toks)) = some (boot_heap w.params, Array.mk [], boot_drawn, boot_toks) :=
  boot_open (by kernel_rfl) (by decide +kernel) (fun s => by kernel_rfl)
theorem head_size (w : World) : ((boot_heap w.params).isNs mainGlobals && (Array.mk [] : Array GenState).size == 0, (boot_heap w.params).objs.size, (boot_heap w.params).nsMap mainGlobals "__annotations__") = (true, 11, annT) := by kernel_rfl
theorem look_a (w : World) : (fun os => (staticsOk (importedModules P1.main.body) (boot_heap w.params) (absHeap (tr5 w.params) 217 { }) && namesBound P1 (absHeap (tr5 w.params) 217 { }) && gensDone ((st5 w os).abs) && laidKept (boot_heap w.params) (absHeap (tr5 w.params) 217 { }))) = fun _ => true := by
  rw [q_imported]
  kernel_rfl
theorem look_b (w : World) : (fun os => openSeen view01 loose01 (importedModules P1.main.body) Xt01 true ((st5 w os).abs)) = fun _ => openGood view01 loose01 := by
  rw [q_openSeen, q_imported]
  kernel_rfl
theorem look_c (w : World) : (fun os => hook01.obs ((st5 w os).abs)) = fun _ => hook01.val w := by
  kernel_rfl
end
end
section
set_option maxRecDepth 100000
theorem as_ok (P : Params) : as01 = (K01 P).map (·.1) := by kernel_rfl
theorem head_left : LeftO R1.toRowW.prog view01 loose01 Xt01 (Hook.obs (kHook K01 as01 as_ok)) (Hook.val (kHook K01 as01 as_ok)) headM :=
  LeftO.of_pieces (H₀ := boot_heap) (H₁ := fun P => absHeap (tr5 P) 217 { }) (gs₀ := Array.mk []) (gs₁ := #[]) (d₀ := boot_drawn) (d₁ := { }) (k₀ := boot_toks) (k₁ := 2423) (m₀ := 11) (ann := annT) (M := headM)
    head_open head_size (fun w os => head_run w os) (by decide +kernel)
    (fun w => funext fun os => looks_pair (congrFun (look_a w) os) (looks_pair (congrFun (look_b w) os) (congrFun (look_c w) os)))
theorem h_bare : R1.toRowW.prog.bare := ⟨rfl, rfl, rfl, rfl, rfl, by decide +kernel⟩
theorem h_ok : (chainsOk view01 && opensWell R1.toRowW.prog && (frees R1.toRowW && R1.toRowW.within.isEmpty)) = true := by decide +kernel
theorem h_wr : (!R1.writes || R1.toRowW.records.isEmpty) = true := by kernel_rfl
theorem hd01 {d : DefRec} {kwd : List (PySem.Str × PySem.Expr)} (hdef : defOf view01 R1.toRowW.name = some (d, kwd)) (hp : R1.toRowW.prog.theDef R1.toRowW.name = some (d.params, d.body, d.scope)) (hk : kwWritten? d.params.kwonlyargs d.params.kw_defaults = some kwd)
    (said : R1.wellSaid = true) (prom : R1.toRowW.promised) (walk : WalkO view01 loose01 (XL view01 []) (Hook.says (kHook K01 as01 as_ok)) R1.toRowW d kwd fun f vs => PySem.call f vs) : R1.Holds :=
  PySem.W.holds_open (q := view01) (loose := loose01) (Xt := Xt01) (XP := XL view01 []) (Yf := Hook.obs (kHook K01 as01 as_ok)) (Ya := Hook.val (kHook K01 as01 as_ok)) (YP := Hook.says (kHook K01 as01 as_ok)) (N := headM)
    head_left (Hook.of _) (Hook.keeps _) (fun s e => xl_of s (Bool.and_eq_true_iff.mp e).1) XL.keeps hdef hp hk (fun s e => recFacts_of (Bool.and_eq_true_iff.mp e).2) h_wr said h_ok h_bare prom walk
end
section
noncomputable def looseQ : List PySem.Str := looseW view01 loose01 ++ (recsOf view01).map (·.name) ++ (litsOf view01).map (·.1) ++ (clssOf view01 (looseW view01 loose01)).map (·.name)
noncomputable def mark (_ : OpenLaw) (_ : Params → Frag) (P : Prop) : Prop := P
noncomputable def Stop (P : Prop) : Prop := P
theorem stopHere {P : Prop} (h : Stop P) : P := h
theorem nm1 {M : PySem.Str → Option Value} {x : PySem.Str} {v : Option Value} (h : M x = v) : M = fun y => if y = x then v else M y := funext fun y => by
  by_cases e : y = x
  · rw [if_pos e, e, h]
  · rw [if_neg e]
theorem under {M M' : PySem.Str → Option Value} {a : PySem.Str} {v : Option Value} (h : M = M') : (fun y => if y = a then v else M y) = fun y => if y = a then v else M' y := by rw [h]
theorem fdivN (n k : Nat) : Int.fdiv (n : Int) (k : Int) = ((n / k : Nat) : Int) := by
  rw [Int.fdiv_eq_ediv_of_nonneg _ (by omega)]; rfl
theorem fmodN (n k : Nat) : Int.fmod (n : Int) (k : Int) = ((n % k : Nat) : Int) := by
  rw [Int.fmod_eq_emod_of_nonneg _ (by omega)]; rfl
theorem sub_refl {l : List (Addr × Obj)} : ∀ p ∈ l, p ∈ l := fun _ h => h
theorem sub_keep {x : Addr × Obj} {l l' : List (Addr × Obj)} (h : ∀ p ∈ l', p ∈ l) : ∀ p ∈ x :: l', p ∈ x :: l := fun p hp => by
  rcases List.mem_cons.mp hp with e | e
  · exact e ▸ .head _
  · exact .tail _ (h p e)
theorem sub_drop {x : Addr × Obj} {l l' : List (Addr × Obj)} (h : ∀ p ∈ l', p ∈ l) : ∀ p ∈ l', p ∈ x :: l := fun p hp => .tail _ (h p hp)
theorem news_sub {g h : Heap} {L : Addr} {l l' : List (Addr × Obj)} (N : News g L h l) (hs : ∀ p ∈ l', p ∈ l) : News g L h l' := fun p hp => N p (hs p hp)
noncomputable def RestLt (rest : List (Addr × Obj)) (b : Addr) : Prop := ∀ p ∈ rest, @LT.lt Nat _ p.1 b
noncomputable def NewOk (E₀ rest E' : List (Addr × Obj)) : Prop := ∀ p ∈ E', p.1 ∈ E₀.map (·.1) ∨ ∀ q ∈ E₀ ++ rest, @LT.lt Nat _ q.1 p.1
theorem NewOk.nil {E₀ rest : List (Addr × Obj)} : NewOk E₀ rest [] := fun _ h => nomatch h
theorem NewOk.same {E₀ rest E' : List (Addr × Obj)} (h : E'.map (·.1) = E₀.map (·.1)) : NewOk E₀ rest E' := fun p hp => .inl (h ▸ List.mem_map_of_mem (f := (·.1)) hp)
theorem NewOk.cons {E₀ rest E' : List (Addr × Obj)} {a : Addr} {o : Obj} (h : ∀ q ∈ E₀ ++ rest, @LT.lt Nat _ q.1 a) (h' : NewOk E₀ rest E') : NewOk E₀ rest ((a, o) :: E') := fun p hp => by
  rcases List.mem_cons.mp hp with rfl | hp
  · exact .inr h
  · exact h' p hp
theorem NewOk.keep {E₀ rest E' : List (Addr × Obj)} {a : Addr} {o : Obj} (h : a ∈ E₀.map (·.1)) (h' : NewOk E₀ rest E') : NewOk E₀ rest ((a, o) :: E') := fun p hp => by
  rcases List.mem_cons.mp hp with rfl | hp
  · exact .inl h
  · exact h' p hp
theorem allLt_in {d : Addr} {l : List (Addr × Obj)} (h : AllLt d l) : ∀ p ∈ l, @LT.lt Nat _ p.1 d := by
  induction l with
  | nil => exact fun _ hp => nomatch hp
  | cons a l ih =>
    intro p hp
    rcases List.mem_cons.mp hp with e | hp
    · exact e ▸ h.1
    · exact ih h.2 p hp
theorem lt_cons {d : Addr} {x : Addr × Obj} {l : List (Addr × Obj)} (h : @LT.lt Nat _ x.1 d) (h' : ∀ p ∈ l, @LT.lt Nat _ p.1 d) : ∀ p ∈ x :: l, @LT.lt Nat _ p.1 d := fun p hp => by
  rcases List.mem_cons.mp hp with rfl | hp
  · exact h
  · exact h' p hp
theorem lt_nil {d : Addr} : ∀ p ∈ ([] : List (Addr × Obj)), @LT.lt Nat _ p.1 d := fun _ h => nomatch h
theorem allLt_trans {a d : Addr} {l : List (Addr × Obj)} (h : AllLt a l) (h' : @LT.lt Nat _ a d) : ∀ p ∈ l, @LT.lt Nat _ p.1 d := fun p hp => Nat.lt_trans (allLt_in h p hp) h'
theorem restLt_of {rest : List (Addr × Obj)} {b : Addr} (h : ∀ p ∈ rest, p.1 < b) : RestLt rest b := h
theorem restLt_all {rest : List (Addr × Obj)} {b : Addr} (h : AllLt b rest) : RestLt rest b := allLt_in h
noncomputable def Spec (w : World) (f : Addr) (args : List Value) (kw : List (PySem.Str × Value)) (d u : Nat) (E₀ : List (Addr × Obj)) (Post : Value → List (Addr × Obj) → Prop) : Prop :=
  ∀ (mean : ExcName → Option Value) (mg mb : PySem.Str → Option Value) (dp un : Nat) (gd : Option (List Code)) (cn : PySem.Str) (cs : Scope) (a : Addr) (ccd : Value) (cl : List (PySem.Str × Addr)) (outer : List Env) (A₀ : Around) (base h₀ : Heap) (L : Addr)
    (m : PySem.Str → Option Value) (rest : List (Addr × Obj)) (s : Shared) (Q E : Value → Shared → Prop),
    Below A₀ base outer h₀ → Fr h₀ L s.heap m → (K01 w.params).In h₀ → News h₀ L s.heap (E₀ ++ rest) → Top topProg looseQ mean mg mb h₀ → cs.kind = .function → dp + d < recursionLimit → un + u < cLine →
    (∀ p ∈ rest, ∀ q ∈ E₀, p.1 ≠ q.1) →
    (∀ r E' h' tk', Post r E' → Fr h₀ L h' m → News h₀ L h' (E' ++ rest) → NewOk E₀ rest E' → Q r { s with heap := h', toks := tk' }) →
    codeAny (model P1 w) (ktrTop dp un gd cn cs L a ccd cl outer) (.call (.ref f) ⟨args, kw⟩) (fun r s' => match r with | .ok (.ret v) => Q v s' | .ok _ => False | .error e => E e s') s
theorem natLt {a b : Addr} (h : a < b) : @LT.lt Nat _ a b := h
theorem natNe {a b : Addr} (h : a ≠ b) : @Ne Nat a b := h
theorem restLt_ne {rest : List (Addr × Obj)} {a b : Addr} (h : RestLt rest b) (hab : @LE.le Nat _ b a) : ∀ p ∈ rest, p.1 ≠ a := fun p hp => Nat.ne_of_lt (Nat.lt_of_lt_of_le (h p hp) hab)
end
local macro_rules | `(tactic| k_all) => `(tactic| first | assumption | exact restLt_ne (by assumption) (by first | exact Nat.le_refl _ | omega))
section
noncomputable def Back (E₀ : List (Addr × Obj)) (g : Heap) (L : Addr) (s : Shared) (rest : List (Addr × Obj)) (Post : Value → List (Addr × Obj) → Prop) (v : Value) (s' : Shared) : Prop :=
  ∃ E' h' tk' m', s' = { s with heap := h', toks := tk' } ∧ Post v E' ∧ Fr g L h' m' ∧ News g L h' (E' ++ rest) ∧ NewOk E₀ rest E'
theorem Back.intro {E₀ : List (Addr × Obj)} {g : Heap} {L : Addr} {s : Shared} {rest : List (Addr × Obj)} {Post : Value → List (Addr × Obj) → Prop} {v : Value} (E' : List (Addr × Obj)) {h' : Heap} {tk' : Nat} {m' : PySem.Str → Option Value}
    (F : Fr g L h' m') (N : News g L h' (E' ++ rest)) (hp : Post v E') (hn : NewOk E₀ rest E') : Back E₀ g L s rest Post v { s with heap := h', toks := tk' } := ⟨E', h', tk', m', rfl, hp, F, N, hn⟩
section
variable {w : World} {f : Addr} {args : List Value} {kw : List (PySem.Str × Value)} {d u : Nat} {E₀ : List (Addr × Obj)} {Post : Value → List (Addr × Obj) → Prop}
  {name qual : PySem.Str} {params : Arguments} {body : List Stmt} {scope : Scope} {dV kV doc pm cdv ct oc : Value} {an od : Option Addr} {osl : Array (Option Value)} {binds : List (PySem.Str × Value)}
theorem sep_news {h₀ h : Heap} {L : Addr} {E₀ rest : List (Addr × Obj)} (N : News h₀ L h (E₀ ++ rest)) : News h₀ L h E₀ ∧ News h₀ L h rest := ⟨fun p hp => N p (List.mem_append_left _ hp), fun p hp => N p (List.mem_append_right _ hp)⟩
theorem spec_plain (ho : (K01 w.params).lookup f = some ⟨oc, od, .func (fnOf name qual params body scope dV kV doc pm an cdv ct), osl⟩) (hcd : codeIn (K01 w.params) cdv qual = true) (hd1 : 1 ≤ d)
    (hbind : ∀ s : Shared, (K01 w.params).In s.heap → BindsTo s (fnOf name qual params body scope dV kV doc pm an cdv ct) ⟨args, kw⟩ binds) (hloc : ∀ y ∈ binds, scope.names.lookup y.1 = some .local)
    (hco : scope.isCoroutine = false) (hgen : scope.isGenerator = false) (hk : scope.kind = .function) (hcell : ∀ x ∈ scope.names, x.2 ≠ .cell)
    (h : ∀ (mean : ExcName → Option Value) (mg mb : PySem.Str → Option Value) (dp un : Nat) (gd : Option (List Code)) (outer : List Env) (A₀ : Around) (base g : Heap) (L : Addr) (h₁ : Heap) (rest : List (Addr × Obj)) (s : Shared) (tk : Nat),
      Below A₀ base outer g → (K01 w.params).In g → Top topProg looseQ mean mg mb g → Fr g L h₁ (fun y => binds.reverse.lookup y) → News g L h₁ (E₀ ++ rest) → RestLt rest L → RestLt E₀ L → (∀ p ∈ rest, ∀ q ∈ E₀, p.1 ≠ q.1) →
      dp + d < recursionLimit → un + u < cLine →
      wpAny (model P1 w) (ktrTop (dp + 1) (un + 3) gd qual scope L f cdv [] outer) (execs body (envX qual scope L f cdv [])) (fun fl s' => Back E₀ g L s rest Post (match fl with | .ret v => v | _ => .none) s') (fun _ _ => False) { s with heap := h₁, toks := tk }) :
    Spec w f args kw d u E₀ Post := by
  intro mean mg mb dp un gd cn cs a ccd cl outer A₀ base h₀ L m rest s Q E B F X N T hks hd hu hsep hret
  refine (callX_plain (cl := []) (env := envX cn cs L a ccd cl) (outer := outer) (base := base) B F N T.nolimit rfl rfl hks (F.keep _ _ (X _ _ ho)) rfl (codeRec_of (X.keeps F.keep) hcd) (by show dp < recursionLimit; omega) (hbind _ (X.keeps F.keep)) hloc (fun g L' h₁ FG F' N' B' st hlt => ?_) hcell hco hgen hk)
  refine wpAny_mono (h mean mg mb dp un gd (envX cn cs L a ccd cl :: outer) _ base g L' h₁ rest s _ B' (X.keeps st) (T.keeps st) F' N' (fun p hp => hlt p (List.mem_append_right _ hp)) (fun p hp => hlt p (List.mem_append_left _ hp)) hsep hd hu) (fun fl s' hb => ?_) fun _ _ e => e.elim
  refine pack fun G9 hG9 => ?_
  obtain ⟨E', h', tk', m', rfl, hp, F9, N9, hn9⟩ := hb
  refine hG9 ?_
  clear hG9
  exact ⟨L', m', _, F9, N9, fun Fh Nh => hret _ _ _ _ hp Fh Nh hn9⟩
theorem spec_cells (ho : (K01 w.params).lookup f = some ⟨oc, od, .func (fnOf name qual params body scope dV kV doc pm an cdv ct), osl⟩) (hcd : codeIn (K01 w.params) cdv qual = true) (hd1 : 1 ≤ d)
    (hbind : ∀ s : Shared, (K01 w.params).In s.heap → BindsTo s (fnOf name qual params body scope dV kV doc pm an cdv ct) ⟨args, kw⟩ binds)
    (hkind : (binds.all fun y => scope.names.lookup y.1 == some .local || scope.names.lookup y.1 == some .cell) = true) (hnd : ((cellsFrom 0 scope.names []).map (·.1)).Nodup)
    (hco : scope.isCoroutine = false) (hgen : scope.isGenerator = false) (hk : scope.kind = .function)
    (h : ∀ (mean : ExcName → Option Value) (mg mb : PySem.Str → Option Value) (dp un : Nat) (gd : Option (List Code)) (outer : List Env) (A₀ : Around) (base g : Heap) (L : Addr) (h₁ : Heap) (cells rest : List (Addr × Obj)) (s : Shared) (tk : Nat),
      Below A₀ base outer g → (K01 w.params).In g → Top topProg looseQ mean mg mb g → Fr g L h₁ (bindL (envOfC qual scope L f cdv).kindOf binds fun _ => none) → News g L h₁ (cells ++ (E₀ ++ rest)) →
      CellsAre (bindC (envOfC qual scope L f cdv).kindOf binds fun _ => none) (cellsFrom (L + 1) scope.names []) cells → RestLt rest L → RestLt E₀ L → (∀ p ∈ rest, ∀ q ∈ E₀, p.1 ≠ q.1) →
      dp + d < recursionLimit → un + u < cLine →
      wpAny (model P1 w) (ktrTop (dp + 1) (un + 3) gd qual scope L f cdv (cellsFrom (L + 1) scope.names []) outer) (execs body (envOfC qual scope L f cdv)) (fun fl s' => Back E₀ g L s rest Post (match fl with | .ret v => v | _ => .none) s') (fun _ _ => False) { s with heap := h₁, toks := tk }) :
    Spec w f args kw d u E₀ Post := by
  intro mean mg mb dp un gd cn cs a ccd cl outer A₀ base h₀ L m rest s Q E B F X N T hks hd hu hsep hret
  refine (callX_cells (env := envX cn cs L a ccd cl) (outer := outer) (base := base) B F N T.nolimit rfl rfl hks (F.keep _ _ (X _ _ ho)) rfl (codeRec_of (X.keeps F.keep) hcd) (by show dp < recursionLimit; omega) (hbind _ (X.keeps F.keep)) (kindsX hkind) hnd (fun g L' h₁ tk cells FG F' N' Y B' st hlt => ?_) hco hgen hk)
  refine wpAny_mono (h mean mg mb dp un gd (envX cn cs L a ccd cl :: outer) _ base g L' h₁ cells rest s tk B' (X.keeps st) (T.keeps st) F' N' Y (fun p hp => hlt p (List.mem_append_right _ hp)) (fun p hp => hlt p (List.mem_append_left _ hp)) hsep hd hu) (fun fl s' hb => ?_) fun _ _ e => e.elim
  refine pack fun G9 hG9 => ?_
  obtain ⟨E', h', tk', m', rfl, hp, F9, N9, hn9⟩ := hb
  refine hG9 ?_
  clear hG9
  exact ⟨L', m', _, F9, N9, fun Fh Nh => hret _ _ _ _ hp Fh Nh hn9⟩
theorem spec_clos {clos : List (PySem.Str × Addr)} {c' : Addr} {ctv : Value} {ocode : Obj} {vcode : Array Value} {tcode : Tok}
    (ho : (f, fnMade name qual params body scope clos doc pm c' ctv) ∈ E₀) (hoc : (c', ocode) ∈ E₀) (hoc1 : ocode.data = .fields vcode) (hoc2 : vcode[1]? = some (.str qual tcode)) (hd1 : 1 ≤ d)
    (hbind : ∀ s : Shared, BindsTo s (fnX name qual params body scope clos .none .none doc pm none (.ref c') ctv) ⟨args, kw⟩ binds) (hloc : ∀ y ∈ binds, scope.names.lookup y.1 = some .local)
    (hco : scope.isCoroutine = false) (hgen : scope.isGenerator = false) (hk : scope.kind = .function) (hcell : ∀ x ∈ scope.names, x.2 ≠ .cell)
    (h : ∀ (mean : ExcName → Option Value) (mg mb : PySem.Str → Option Value) (dp un : Nat) (gd : Option (List Code)) (outer : List Env) (A₀ : Around) (base g : Heap) (L : Addr) (h₁ : Heap) (rest : List (Addr × Obj)) (s : Shared) (tk : Nat),
      Below A₀ base outer g → (K01 w.params).In g → Top topProg looseQ mean mg mb g → Fr g L h₁ (fun y => binds.reverse.lookup y) → News g L h₁ (E₀ ++ rest) → RestLt rest L → RestLt E₀ L → (∀ p ∈ rest, ∀ q ∈ E₀, p.1 ≠ q.1) →
      dp + d < recursionLimit → un + u < cLine →
      wpAny (model P1 w) (ktrTop (dp + 1) (un + 3) gd qual scope L f (.ref c') clos outer) (execs body (envX qual scope L f (.ref c') clos)) (fun fl s' => Back E₀ g L s rest Post (match fl with | .ret v => v | _ => .none) s') (fun _ _ => False) { s with heap := h₁, toks := tk }) :
    Spec w f args kw d u E₀ Post := by
  intro mean mg mb dp un gd cn cs a ccd cl outer A₀ base h₀ L m rest s Q E B F X N T hks hd hu hsep hret
  have NE := (sep_news N).1
  refine (callX_plain (cl := clos) (env := envX cn cs L a ccd cl) (outer := outer) (base := base) B F N T.nolimit rfl rfl hks (NE _ ho).1 rfl ⟨c', _, _, _, rfl, (NE _ hoc).1, hoc1, hoc2⟩ (by show dp < recursionLimit; omega) (hbind _) hloc (fun g L' h₁ FG F' N' B' st hlt => ?_) hcell hco hgen hk)
  refine wpAny_mono (h mean mg mb dp un gd (envX cn cs L a ccd cl :: outer) _ base g L' h₁ rest s _ B' (X.keeps st) (T.keeps st) F' N' (fun p hp => hlt p (List.mem_append_right _ hp)) (fun p hp => hlt p (List.mem_append_left _ hp)) hsep hd hu) (fun fl s' hb => ?_) fun _ _ e => e.elim
  refine pack fun G9 hG9 => ?_
  obtain ⟨E', h', tk', m', rfl, hp, F9, N9, hn9⟩ := hb
  refine hG9 ?_
  clear hG9
  exact ⟨L', m', _, F9, N9, fun Fh Nh => hret _ _ _ _ hp Fh Nh hn9⟩
end
end
section
theorem codeHd160 {w : World} {h : Heap} (X : (K01 w.params).In h) : CodeHd h 160 156 := by
  have e : (K01 w.params).lookup 160 = some _ := rfl
  exact ⟨_, _, _, _, _, _, _, _, _, X _ _ e, rfl, rfl, rfl, rfl, rfl, rfl, rfl, rfl, by decide⟩
noncomputable def one (c : Nat) : PySem.Str := ⟨#[c]⟩
noncomputable def Chars (vs : List Value) (cs : List Nat) : Prop := StrsAre vs (cs.map one)
theorem strsAre_of_carried : ∀ {vs : List Value} {ss : List PySem.Str}, CarriedAll vs (ss.map PyData.str) → StrsAre vs ss
  | _, [], h => by cases h; exact .nil
  | _, s :: ss, h => by
    cases h with
    | cons h1 h2 => cases h1; exact .cons _ _ (strsAre_of_carried h2)
section
variable {prog : Program} {w : World} {A : Around} {E : Value → Shared → Prop} {s : Shared} {h₀ : Heap} {L : Addr} {m : PySem.Str → Option Value} {news : List (Addr × Obj)} {Q : Value → Shared → Prop}
theorem news_new {h' : Heap} {D : Addr} {ys : List Value} (F : Fr h₀ L s.heap m) (N' : News h₀ L h' news) (hD : D = s.heap.objs.size) (hn : h₀.get? D = none) (NP : NewPlain h' news D ys.toArray) :
    ∃ c, News h₀ L h' ((D, listOf ys.toArray c) :: news) := by
  obtain ⟨⟨c, e⟩, _⟩ := NP
  refine ⟨c, fun p hp => ?_⟩
  rcases List.mem_cons.mp hp with rfl | hp
  · exact ⟨e, by rw [hD]; exact Nat.ne_of_gt F.ns.lt, hn⟩
  · exact N' p hp
theorem list_text_K {x : PySem.Str} {t : Tok} (hh : A.handled = none) (F : Fr h₀ L s.heap m) (N : News h₀ L s.heap news) (hsz : x.length ≤ sizeLine)
    (h : ∀ D c ys h' tk, Fr h₀ L h' m → News h₀ L h' ((D, listOf (List.toArray ys) c) :: news) → (∀ p ∈ news, p.1 < D) → Chars ys x.cps.toList → Q (.ref D) { s with heap := h', toks := tk }) :
    wpAny (model prog w) A (call (.type "list") [.str x t]) Q E s := by
  refine list_strD hh F N (fun h' tk ys F' N' _ hn _ NP hc => ?_) hsz
  obtain ⟨c, N9⟩ := news_new F N' rfl hn NP
  exact h _ c ys h' tk F' N9 (fun p hp => Heap.lt_size (N p hp).1) (strsAre_of_carried hc)
end
end
local macro_rules | `(tactic| k_room) => `(tactic| ((try simp only [depth_under_make, depth_under_kw, depth_in1, depth_deeper]); (try dsimp only [ktrTop]); omega))
section
end
section
open PySem PySem.W PySem.Calls PyProof.Rows PySem.Spec PyProof.V
theorem strs_carried : ∀ {vs : List Value} {ss : List PySem.Str}, StrsAre vs ss → CarriedAll vs (ss.map PyData.str)
  | _, _, .nil => .nil
  | _, _, .cons _ t r => .cons (.str _ t) (strs_carried r)
noncomputable def StrsOk (ns : List PySem.Str) : Prop := ∀ x ∈ ns, PyData.strOk x = true
theorem ks_canLayAll0 : ∀ ns : List PySem.Str, StrsOk ns → PyData.canLayAll0 (ns.map PyData.str) = true
  | [], _ => rfl
  | a :: r, h => by simp [PyData.canLayAll0, PyData.canLay0, ks_canLayAll0 r (fun x hx => h x (.tail _ hx)), h a (.head _)]
theorem ks_depthAll : ∀ ns : List PySem.Str, PyData.depthAll (ns.map PyData.str) = 0
  | [] => rfl
  | _ :: r => by simp [PyData.depthAll, PyData.depth, ks_depthAll r]
theorem ks_shaped (ns : List PySem.Str) (h : StrsOk ns) : SeqAt.shaped (.list (ns.map PyData.str)) = true := by
  simp [SeqAt.shaped, PyData.canLay0, PyData.depth, ks_canLayAll0 ns h, ks_depthAll]
theorem ks_sameAll : ∀ ns ms : List PySem.Str, PySem.Spec.sameAll (ns.map PyData.str) (ms.map PyData.str) = decide (ns = ms)
  | [], [] => by simp [PySem.Spec.sameAll]
  | [], _ :: _ => by simp [PySem.Spec.sameAll]
  | _ :: _, [] => by simp [PySem.Spec.sameAll]
  | a :: r, b :: t => by
    simp only [List.map_cons, PySem.Spec.sameAll, PySem.Spec.same, ks_sameAll r t]
    by_cases h : a = b <;> by_cases h' : r = t <;> simp [h, h']
theorem ks_same (ns ms : List PySem.Str) : PySem.Spec.same (.list (ns.map PyData.str)) (.list (ms.map PyData.str)) = decide (ns = ms) := by
  simp only [PySem.Spec.same]; exact ks_sameAll ns ms
section
variable {prog : Program} {w : World} {A : Around} {E : Value → Shared → Prop} {s : Shared} {a b : Addr} {xs ys : List Value} {ns ms : List PySem.Str} {Q : Value → Shared → Prop}
theorem ks_eq (ha : s.heap.IsList a xs.toArray) (hb : s.heap.IsList b ys.toArray) (hi : StrsAre xs ns) (hj : StrsAre ys ms) (hn : StrsOk ns) (hm : StrsOk ms) (hu : A.units + 64 < cLine) (h : Q (.bool (decide (ns = ms))) s) :
    wpAny (model prog w) A (compareOp .Eq (.ref a) (.ref b)) Q E s :=
  eq_dataH_same (reads_newData ha (strs_carried hi)) (reads_newData hb (strs_carried hj)) (ks_shaped _ hn) (ks_shaped _ hm) hu (SeqAt.noMix_of_shape (.list .str) rfl _ _ (list_map_has fun _ => rfl) (list_map_has fun _ => rfl)) (by rw [ks_same]; exact h)
theorem ks_ne (ha : s.heap.IsList a xs.toArray) (hb : s.heap.IsList b ys.toArray) (hi : StrsAre xs ns) (hj : StrsAre ys ms) (hn : StrsOk ns) (hm : StrsOk ms) (hu : A.units + 64 < cLine) (h : Q (.bool (!decide (ns = ms))) s) :
    wpAny (model prog w) A (compareOp .NotEq (.ref a) (.ref b)) Q E s :=
  ne_dataH_same (reads_newData ha (strs_carried hi)) (reads_newData hb (strs_carried hj)) (ks_shaped _ hn) (ks_shaped _ hm) hu (SeqAt.noMix_of_shape (.list .str) rfl _ _ (list_map_has fun _ => rfl) (list_map_has fun _ => rfl)) (by rw [ks_same]; exact h)
end
theorem strsOk_nil : StrsOk [] := fun _ h => nomatch h
theorem strsAre_nil : StrsAre [] [] := .nil
end
section
noncomputable abbrev dE (w : World) (k : String) (t : Tok) (v : Value) : DictEntry := ⟨PyData.keyHash w.params (PySem.Str.ofString k), .str (PySem.Str.ofString k) t, v⟩
noncomputable def bodyAt (p : Program) (i : Nat) : List Stmt := match p.main.body[i]? with
  | some (.FunctionDef _ _ b _ _ _ _ _ _ _) => b
  | _ => []
noncomputable def nestAt (b : List Stmt) (i : Nat) : Option (PySem.Str × Arguments × List Stmt × Scope) := match b[i]? with
  | some (.FunctionDef n a b _ _ _ sc _ _ _) => some (n, a, b, sc)
  | _ => none
theorem tail_in {p x : Addr × Obj} {l : List (Addr × Obj)} (h : p ∈ l) : p ∈ x :: l := .tail _ h
noncomputable def nthL {α : Type} : List α → Nat → Option α
  | [], _ => none
  | a :: _, 0 => some a
  | _ :: l, n + 1 => nthL l n
noncomputable def dropN {α : Type} : Nat → List α → List α
  | 0, l => l
  | n + 1, l => dropN n l.tail
noncomputable def dropL {α : Type} (l : List α) : Option Nat → List α
  | none => []
  | some n => dropN n l
noncomputable def pickL {α : Type} (L : List α) : List Nat → Option Nat → List α
  | [], n => dropL L n
  | i :: is, n => match nthL L i with
    | some a => a :: pickL L is n
    | none => pickL L is n
theorem nthL_mem {α : Type} : ∀ {L : List α} {i : Nat} {a : α}, nthL L i = some a → a ∈ L
  | _ :: _, 0, _, h => Option.some.inj h ▸ .head _
  | _ :: _, _ + 1, _, h => .tail _ (nthL_mem h)
theorem dropN_mem {α : Type} {a : α} : ∀ {n : Nat} {L : List α}, a ∈ dropN n L → a ∈ L
  | 0, _, h => h
  | _ + 1, _, h => List.mem_of_mem_tail (dropN_mem h)
theorem dropL_mem {α : Type} {L : List α} {n : Option Nat} {a : α} (h : a ∈ dropL L n) : a ∈ L := by
  cases n with
  | none => nomatch h
  | some n => exact dropN_mem h
theorem pickL_mem {α : Type} {L : List α} {n : Option Nat} : ∀ {is : List Nat} {a : α}, a ∈ pickL L is n → a ∈ L
  | [], _, h => dropL_mem h
  | i :: is, a, h => by
    unfold pickL at h
    cases e : nthL L i with
    | none => rw [e] at h; exact pickL_mem h
    | some b =>
      rw [e] at h
      rcases List.mem_cons.mp h with h | h
      · exact h ▸ nthL_mem e
      · exact pickL_mem h
noncomputable abbrev SubP (L l' : List (Addr × Obj)) (_ : List Nat) (_ : Option Nat) : Prop := ∀ p ∈ l', p ∈ L
theorem sub_pick {L l' : List (Addr × Obj)} {is : List Nat} {n : Option Nat} (h : pickL L is n = l') : SubP L l' is n := fun _ hp => pickL_mem (h ▸ hp)
noncomputable def AtL (_ : List (Addr × Obj)) (_ : Nat) (_ : Addr × Obj) : Prop := True
noncomputable def TlL (_ : List (Addr × Obj)) (_ : Nat) (_ : List (Addr × Obj)) : Prop := True
noncomputable def HintL (_ _ : List (Addr × Obj)) (_ : List Nat) (_ : Option Nat) : Prop := True
noncomputable abbrev HintTo (L l' : List (Addr × Obj)) (is : List Nat) (n : Option Nat) : Prop := HintL L l' is n → SubP L l' is n
section
variable {a b : Addr × Obj} {L l' : List (Addr × Obj)} {i k : Nat} {is : List Nat} {n : Option Nat}
theorem pkA : AtL (a :: L) Nat.zero a := trivial
theorem pkB (_ : AtL L i a) : AtL (b :: L) (Nat.succ i) a := trivial
theorem pkF : TlL L Nat.zero L := trivial
theorem pkG (_ : TlL L k l') : TlL (b :: L) (Nat.succ k) l' := trivial
theorem pkC (_ : AtL L i a) (_ : HintL L l' is n) : HintL L (a :: l') (i :: is) n := trivial
theorem pkD : HintL L [] [] none := trivial
theorem pkE (_ : TlL L k l') : HintL L l' [] (some k) := trivial
end
theorem mem_swap {α : Type} {p : α} {A B : List α} (h : p ∈ A ++ B) : p ∈ B ++ A := List.mem_append.mpr (List.mem_append.mp h).symm
theorem mem_four {α : Type} {p : α} {A B C D : List α} (h : p ∈ (A ++ B) ++ (C ++ D)) : p ∈ (A ++ C) ++ (B ++ D) := by
  simp only [List.mem_append] at h ⊢
  exact h.elim (fun h => h.elim (fun h => .inl (.inl h)) fun h => .inr (.inl h)) fun h => h.elim (fun h => .inl (.inr h)) fun h => .inr (.inr h)
theorem mem_mid {α : Type} {p f : α} {Z T R : List α} (h : p ∈ Z ++ ((T ++ [f]) ++ R)) : p ∈ f :: (Z ++ (T ++ R)) := by
  simp only [List.mem_append, List.mem_cons, List.not_mem_nil, or_false] at h ⊢
  exact h.elim (fun h => .inr (.inl h)) fun h => h.elim (fun h => h.elim (fun h => .inr (.inr (.inl h))) .inl) fun h => .inr (.inr (.inr h))
theorem sub_then {q : Addr × Obj} {L l' : List (Addr × Obj)} (h : ∀ p ∈ l', p ∈ L) (hq : q ∈ l') : q ∈ L := h q hq
noncomputable def hdS : List Nat → PySem.Str
  | [] => PySem.Str.empty
  | a :: _ => one a
noncomputable def isNl : List Nat → Int
  | 10 :: _ => 1
  | _ => 0
theorem one_eq {a : Nat} {s : String} {b : Nat} (hs : PySem.Str.ofString s = one b) : (one a == PySem.Str.ofString s) = decide (a = b) := by
  rw [hs]
  by_cases h : a = b
  · subst h; simp
  · have : one a ≠ one b := fun e => h (by simpa [one] using e)
    simp [h, this]
theorem nl_str : PySem.Str.ofString "\n" = one 10 := by decide +kernel
theorem nl_true {cs : List Nat} (h : (hdS cs == PySem.Str.ofString "\n") = true) : isNl cs = 1 := by
  cases cs with
  | nil => exact absurd h (by decide +kernel)
  | cons a r =>
    unfold hdS at h
    rw [one_eq nl_str, decide_eq_true_eq] at h
    subst h; rfl
theorem nl_false {cs : List Nat} (h : (hdS cs == PySem.Str.ofString "\n") = false) : isNl cs = 0 := by
  cases cs with
  | nil => rfl
  | cons a r =>
    unfold hdS at h
    rw [one_eq nl_str, decide_eq_false_iff_not] at h
    unfold isNl
    split
    · rename_i e; cases e; exact absurd rfl h
    · rfl
theorem spec_use {w : World} {f : Addr} {args : List Value} {kw : List (PySem.Str × Value)} {d u : Nat} {E₀ : List (Addr × Obj)} {Post : Value → List (Addr × Obj) → Prop} (S : Spec w f args kw d u E₀ Post)
    {mean : ExcName → Option Value} {mg mb : PySem.Str → Option Value} {dp un : Nat} {gd : Option (List Code)} {cn : PySem.Str} {cs : Scope} {a : Addr} {ccd : Value} {cl : List (PySem.Str × Addr)} {outer : List Env} {A₀ : Around} {base h₀ : Heap} {L : Addr}
    {m : PySem.Str → Option Value} {news : List (Addr × Obj)} (rest : List (Addr × Obj)) {s : Shared} {Q E : Value → Shared → Prop}
    (B : Below A₀ base outer h₀) (F : Fr h₀ L s.heap m) (X : (K01 w.params).In h₀) (N : News h₀ L s.heap news) (T : Top topProg looseQ mean mg mb h₀) (hk : cs.kind = .function) (hd : dp + d < recursionLimit) (hu : un + u < cLine)
    (hperm : ∀ p ∈ E₀ ++ rest, p ∈ news) (hsep : ∀ p ∈ rest, ∀ q ∈ E₀, p.1 ≠ q.1)
    (h : ∀ r E' h' tk', Post r E' → Fr h₀ L h' m → News h₀ L h' (E' ++ rest) → NewOk E₀ rest E' → Q r { s with heap := h', toks := tk' }) :
    wpAny (model P1 w) (ktrTop dp un gd cn cs L a ccd cl outer) (call (.ref f) args kw) Q E s :=
  wpAny_call <| S mean mg mb dp un gd cn cs a ccd cl outer A₀ base h₀ L m rest s Q E B F X (fun p hp => N p (hperm p hp)) T hk hd hu hsep h
theorem sep_cons {q : Addr × Obj} {E₀ rest : List (Addr × Obj)} (h1 : ∀ p ∈ rest, p.1 ≠ q.1) (h2 : ∀ p ∈ rest, ∀ q ∈ E₀, p.1 ≠ q.1) : ∀ p ∈ rest, ∀ r ∈ q :: E₀, p.1 ≠ r.1 := fun p hp r hr => by
  rcases List.mem_cons.mp hr with rfl | hr
  · exact h1 p hp
  · exact h2 p hp r hr
theorem sep_nil {rest : List (Addr × Obj)} : ∀ p ∈ rest, ∀ r ∈ ([] : List (Addr × Obj)), p.1 ≠ r.1 := fun _ _ _ h => nomatch h
end
section
local macro_rules | `(tactic| walk_at "compareOp NotEq ref ref") => `(tactic| (refine stopHere ?_))
set_option maxRecDepth 100000 in
set_option maxHeartbeats 4000000 in
theorem law_read {w : World} {nm : PySem.Str} {pa : Arguments} {bo : List Stmt} {sc : Scope} {qual : PySem.Str} {doc pm ctv : Value} {f cd c sg : Addr} {oc ocell : Obj} {vs : Array Value} {tq : Tok} {sv : List Value} {cs : List Nat} {k : Nat} (i : Int) (t : Tok)
    (hn : nestAt (bodyAt P1 14) 1 = some (nm, pa, bo, sc)) (hoc : oc.data = .fields vs) (hov : vs[1]? = some (.str qual tq)) (hcell : ocell.data = .cell (some (.ref sg))) (hsv : StrsAre sv (cs.map one)) (hok : StrsOk (cs.map one)) (hlen : cs.length < 1000000)
    (hord : @LT.lt Nat _ c sg ∧ @LT.lt Nat _ sg cd ∧ @LT.lt Nat _ cd f) : mark PySem.Challenge.rw_us0019_01 K01
   (Spec w f [.int i t] [] 10 100 [(f, fnMade nm qual pa bo sc [(PySem.Str.ofString "signs", c)] doc pm cd ctv), (cd, oc), (c, ocell), (sg, listOf sv.toArray k)]
     fun r E' => ∃ sv' k' t', r = .str (hdS cs) t' ∧ StrsAre sv' (cs.tail.map one) ∧ E' = [(f, fnMade nm qual pa bo sc [(PySem.Str.ofString "signs", c)] doc pm cd ctv), (cd, oc), (c, ocell), (sg, listOf sv'.toArray k')]) := by
  k_fill
  unfold mark
  conv at hn => lhs; whnf
  simp only [Option.some.injEq, Prod.mk.injEq] at hn
  obtain ⟨rfl, rfl, rfl, rfl⟩ := hn
  k_dflt (refine' spec_clos ?h1 ?h2 hoc hov ?hd1 ?hb ?hl ?hco ?hg ?hk ?hce ?_; (case h1 => exact .head _); (case h2 => exact .tail _ (.head _)); (case hd1 => decide); (case hb => exact fun _ => BindsTo.of_eq rfl); (case hl => exact locs rfl); (case hco => exact rfl); (case hg => exact rfl); (case hk => exact rfl); (case hce => decide))
  intro mean mg mb dp un gd outer A₀ base g L h₁ rest s tk B X T F N hR hE hsep hd hu
  simp only [List.cons_append, List.nil_append] at N
  have hs1 : ∀ p ∈ rest, p.1 ≠ sg := fun p hp => hsep p hp _ (.tail _ (.tail _ (.tail _ (.head _))))
  obtain ⟨ho1, ho2, ho3⟩ := hord
  have C160 := codeHd160 X
  match cs, hsv with
  | [], .nil =>
    k_steps
    unfold Stop
    k_dflt (refine' ks_ne ?qa ?qb ?qi ?qj ?qm ?qn ?qu ?_; (case qa => is_list); (case qb => is_list); (case qi => first | assumption | exact strsAre_nil); (case qj => first | assumption | exact strsAre_nil); (case qm => first | assumption | exact strsOk_nil); (case qn => first | assumption | exact strsOk_nil); (case qu => (try dsimp only [ktrTop]); omega))
    k_steps
    exact Back.intro [_, _, _, _] (by assumption) (news_sub (by assumption) (by (((try simp only [List.cons_append, List.nil_append]); refine (?_ : HintTo _ _ _ _) (by repeat' (with_reducible (first | exact pkA | apply pkB | apply pkC | exact pkD | apply pkE | exact pkF | apply pkG))); exact fun _ => sub_pick rfl)))) ⟨_, _, _, rfl, .nil, rfl⟩ (NewOk.same rfl)
  | a :: cs, .cons (vs := sv) _ ta hsv =>
    have hsv0 : StrsAre (.str (one a) ta :: sv) ((a :: cs).map one) := .cons _ _ hsv
    have hz := hsv.length
    rw [List.length_map] at hz
    k_steps
    unfold Stop
    k_dflt (refine' ks_ne ?qa ?qb ?qi ?qj ?qm ?qn ?qu ?_; (case qa => is_list); (case qb => is_list); (case qi => first | assumption | exact strsAre_nil); (case qj => first | assumption | exact strsAre_nil); (case qm => first | assumption | exact strsOk_nil); (case qn => first | assumption | exact strsOk_nil); (case qu => (try dsimp only [ktrTop]); omega))
    k_steps
    · exfalso
      simp_all
    · refine kl_popAt (k := 0) (p := []) (q := sv) (by k_asm) (by k_asm) rfl ?_ rfl (by k_upd) ?_ ?_
      · simp [seqIndex?]
      · simp only [List.length_cons] at hlen ⊢
        simp only [sizeLine_eq]; omega
      intro h' F' N'
      k_steps
      exact Back.intro [_, _, _, _] (by assumption) (news_sub (by assumption) (by (((try simp only [List.cons_append, List.nil_append]); refine (?_ : HintTo _ _ _ _) (by repeat' (with_reducible (first | exact pkA | apply pkB | apply pkC | exact pkD | apply pkE | exact pkF | apply pkG))); exact fun _ => sub_pick rfl)))) ⟨_, _, _, rfl, hsv, rfl⟩ (NewOk.same rfl)
end
section
theorem eps_all {α : Type} (ne : Nonempty α) (P : α → Prop) (h : P (@Classical.epsilon α ne fun a => ¬ P a)) (a : α) : P a :=
  Classical.byContradiction fun hn => (@Classical.epsilon_spec α (fun a => ¬ P a) ⟨a, hn⟩) h
noncomputable def w0 : World := ⟨fun _ _ => 0, { strHash := fun _ => 0, shareClass := fun _ => 0, mergeTok := fun t => t, idOf := fun _ => 0, idOfShared := fun _ _ => 0, followText := fun _ => false, idOfImm := fun _ => 0 }⟩
noncomputable def PlainH (w : World) (f : Addr) (qual : PySem.Str) (body : List Stmt) (scope : Scope) (cdv : Value) (binds : List (PySem.Str × Value)) (d u : Nat) (E₀ : List (Addr × Obj)) (Post : Value → List (Addr × Obj) → Prop)
    (mean : ExcName → Option Value) (mg mb : PySem.Str → Option Value) (dp un : Nat) (gd : Option (List Code)) (outer : List Env) (A₀ : Around) (base g : Heap) (L : Addr) (h₁ : Heap) (rest : List (Addr × Obj)) (s : Shared) (tk : Nat) : Prop :=
  Below A₀ base outer g → (K01 w.params).In g → Top topProg looseQ mean mg mb g → Fr g L h₁ (fun y => binds.reverse.lookup y) → News g L h₁ (E₀ ++ rest) → RestLt rest L → RestLt E₀ L → (∀ p ∈ rest, ∀ q ∈ E₀, p.1 ≠ q.1) →
      dp + d < recursionLimit → un + u < cLine →
      wpAny (model P1 w) (ktrTop (dp + 1) (un + 3) gd qual scope L f cdv [] outer) (execs body (envX qual scope L f cdv [])) (fun fl s' => Back E₀ g L s rest Post (match fl with | .ret v => v | _ => .none) s') (fun _ _ => False) { s with heap := h₁, toks := tk }
noncomputable def CellsH (w : World) (f : Addr) (qual : PySem.Str) (body : List Stmt) (scope : Scope) (cdv : Value) (binds : List (PySem.Str × Value)) (d u : Nat) (E₀ : List (Addr × Obj)) (Post : Value → List (Addr × Obj) → Prop)
    (mean : ExcName → Option Value) (mg mb : PySem.Str → Option Value) (dp un : Nat) (gd : Option (List Code)) (outer : List Env) (A₀ : Around) (base g : Heap) (L : Addr) (h₁ : Heap) (rest : List (Addr × Obj)) (s : Shared) (tk : Nat) : Prop :=
  ∀ cells : List (Addr × Obj), Below A₀ base outer g → (K01 w.params).In g → Top topProg looseQ mean mg mb g → Fr g L h₁ (bindL (envOfC qual scope L f cdv).kindOf binds fun _ => none) → News g L h₁ (cells ++ (E₀ ++ rest)) →
      CellsAre (bindC (envOfC qual scope L f cdv).kindOf binds fun _ => none) (cellsFrom (L + 1) scope.names []) cells → RestLt rest L → RestLt E₀ L → (∀ p ∈ rest, ∀ q ∈ E₀, p.1 ≠ q.1) →
      dp + d < recursionLimit → un + u < cLine →
      wpAny (model P1 w) (ktrTop (dp + 1) (un + 3) gd qual scope L f cdv (cellsFrom (L + 1) scope.names []) outer) (execs body (envOfC qual scope L f cdv)) (fun fl s' => Back E₀ g L s rest Post (match fl with | .ret v => v | _ => .none) s') (fun _ _ => False) { s with heap := h₁, toks := tk }
end
section
set_option genSizeOf false in
set_option genInjectivity false in
structure Lx where
  (c sg cd f dy y ypb dx x pb : Addr)
  (t1 t2 t3 t3' t4 u1 u2 u3 u3' u4 u5 lt0 : Tok)
  (qual : PySem.Str) (doc pm ctv : Value) (oc ocell : Obj) (vs : Array Value) (tq : Tok)
  (nm : PySem.Str) (pa : Arguments) (bo : List Stmt) (sc : Scope)
structure Lx.Ok (X : Lx) : Prop where
  hn : nestAt (bodyAt P1 14) 1 = some (X.nm, X.pa, X.bo, X.sc)
  hoc : X.oc.data = .fields X.vs
  hov : X.vs[1]? = some (.str X.qual X.tq)
  hcell : X.ocell.data = .cell (some (.ref X.sg))
  ord : @LT.lt Nat _ X.c X.sg ∧ @LT.lt Nat _ X.sg X.cd ∧ @LT.lt Nat _ X.cd X.f ∧ @LT.lt Nat _ X.f X.dy ∧ @LT.lt Nat _ X.dy X.y ∧ @LT.lt Nat _ X.y X.dx ∧ @LT.lt Nat _ X.dx X.x ∧ @LT.lt Nat _ X.x X.pb
noncomputable abbrev Lx.rd (X : Lx) (sv : List Value) (k : Nat) : List (Addr × Obj) :=
  [(X.f, fnMade X.nm X.qual X.pa X.bo X.sc [(PySem.Str.ofString "signs", X.c)] X.doc X.pm X.cd X.ctv), (X.cd, X.oc), (X.c, X.ocell), (X.sg, listOf sv.toArray k)]
noncomputable abbrev Lx.obs (w : World) (X : Lx) (line : Int) (tl : Tok) (yline : Value) : List (Addr × Obj) :=
  [(X.x, instObj 86 X.dx), (X.dx, dictOf [dE w "lineno" X.t1 (.int line tl), dE w "instream" X.t2 (.ref X.y), dE w "whitespace" X.t3 (.str (PySem.Str.ofString "\n\t\r ") X.t3'), dE w "pushback" X.t4 (.ref X.pb)] 4),
   (X.y, instObj 86 X.dy), (X.dy, dictOf [dE w "lineno" X.u1 yline, dE w "instream" X.u2 .none, dE w "whitespace" X.u3 (.str (PySem.Str.ofString "\n\t\r ") X.u3'), dE w "pushback" X.u4 (.ref X.ypb), dE w "read" X.u5 (.ref X.f)] 5)]
local macro_rules | `(tactic| walk_at "call ref") => `(tactic| (refine stopHere ?_))
namespace NRc
noncomputable def G (w : World) (X : Lx) (sv : List Value) (cs : List Nat) (k : Nat) (line : Int) (tl : Tok) (yl : Value) (mean : ExcName → Option Value) (mg : PySem.Str → Option Value) (mb : PySem.Str → Option Value) (dp : Nat) (un : Nat) (gd : Option (List Code)) (outer : List Env) (A₀ : Around) (base : Heap) (g : Heap) (L : Addr) (h₁ : Heap) (rest : List (Addr × Obj)) (s : Shared) (tk : Nat) : Prop :=
  (X.Ok) → (StrsAre sv (cs.map one)) → (StrsOk (cs.map one)) → (cs.length < 1000000) → (0 ≤ line) → (line < 2 ^ 40) → PlainH w 69 (PySem.Str.ofString "_netrclex._read_char") bd7_1 sc7_1 (.ref 68) [(PySem.Str.ofString "self", .ref X.x)] 20 200 ((X.obs w line tl yl ++ X.rd sv k)) (fun r E' => ∃ sv' k' t' tl', r = .str (hdS cs) t' ∧ StrsAre sv' (cs.tail.map one) ∧ E' = X.obs w (line + isNl cs) tl' yl ++ X.rd sv' k') mean mg mb dp un gd outer A₀ base g L h₁ rest s tk
noncomputable abbrev D : Type := (World) × (Lx) × (List Value) × (List Nat) × (Nat) × (Int) × (Tok) × (Value) × (ExcName → Option Value) × (PySem.Str → Option Value) × (PySem.Str → Option Value) × (Nat) × (Nat) × (Option (List Code)) × (List Env) × (Around) × (Heap) × (Heap) × (Addr) × (Heap) × (List (Addr × Obj)) × (Shared) × (Nat)
theorem ne : Nonempty D := ⟨⟨w0, { c := 0, sg := 0, cd := 0, f := 0, dy := 0, y := 0, ypb := 0, dx := 0, x := 0, pb := 0, t1 := 0, t2 := 0, t3 := 0, t3' := 0, t4 := 0, u1 := 0, u2 := 0, u3 := 0, u3' := 0, u4 := 0, u5 := 0, lt0 := 0, qual := default, doc := .none, pm := .none, ctv := .none, oc := default, ocell := default, vs := #[], tq := 0, nm := default, pa := default, bo := [], sc := default }, [], [], 0, 0, 0, .none, fun _ => none, fun _ => none, fun _ => none, 0, 0, none, [], {}, default, default, 0, default, [], {}, 0⟩⟩
noncomputable abbrev H (d : D) : Prop := G d.1 d.2.1 d.2.2.1 d.2.2.2.1 d.2.2.2.2.1 d.2.2.2.2.2.1 d.2.2.2.2.2.2.1 d.2.2.2.2.2.2.2.1 d.2.2.2.2.2.2.2.2.1 d.2.2.2.2.2.2.2.2.2.1 d.2.2.2.2.2.2.2.2.2.2.1 d.2.2.2.2.2.2.2.2.2.2.2.1 d.2.2.2.2.2.2.2.2.2.2.2.2.1 d.2.2.2.2.2.2.2.2.2.2.2.2.2.1 d.2.2.2.2.2.2.2.2.2.2.2.2.2.2.1 d.2.2.2.2.2.2.2.2.2.2.2.2.2.2.2.1 d.2.2.2.2.2.2.2.2.2.2.2.2.2.2.2.2.1 d.2.2.2.2.2.2.2.2.2.2.2.2.2.2.2.2.2.1 d.2.2.2.2.2.2.2.2.2.2.2.2.2.2.2.2.2.2.1 d.2.2.2.2.2.2.2.2.2.2.2.2.2.2.2.2.2.2.2.1 d.2.2.2.2.2.2.2.2.2.2.2.2.2.2.2.2.2.2.2.2.1 d.2.2.2.2.2.2.2.2.2.2.2.2.2.2.2.2.2.2.2.2.2.1 d.2.2.2.2.2.2.2.2.2.2.2.2.2.2.2.2.2.2.2.2.2.2
@[irreducible] noncomputable def d : D := @Classical.epsilon D ne fun d => ¬ H d
@[irreducible] noncomputable def w : World := d.1
@[irreducible] noncomputable def X : Lx := d.2.1
@[irreducible] noncomputable def sv : List Value := d.2.2.1
@[irreducible] noncomputable def cs : List Nat := d.2.2.2.1
@[irreducible] noncomputable def k : Nat := d.2.2.2.2.1
@[irreducible] noncomputable def line : Int := d.2.2.2.2.2.1
@[irreducible] noncomputable def tl : Tok := d.2.2.2.2.2.2.1
@[irreducible] noncomputable def yl : Value := d.2.2.2.2.2.2.2.1
@[irreducible] noncomputable def mean : ExcName → Option Value := d.2.2.2.2.2.2.2.2.1
@[irreducible] noncomputable def mg : PySem.Str → Option Value := d.2.2.2.2.2.2.2.2.2.1
@[irreducible] noncomputable def mb : PySem.Str → Option Value := d.2.2.2.2.2.2.2.2.2.2.1
@[irreducible] noncomputable def dp : Nat := d.2.2.2.2.2.2.2.2.2.2.2.1
@[irreducible] noncomputable def un : Nat := d.2.2.2.2.2.2.2.2.2.2.2.2.1
@[irreducible] noncomputable def gd : Option (List Code) := d.2.2.2.2.2.2.2.2.2.2.2.2.2.1
@[irreducible] noncomputable def outer : List Env := d.2.2.2.2.2.2.2.2.2.2.2.2.2.2.1
@[irreducible] noncomputable def A₀ : Around := d.2.2.2.2.2.2.2.2.2.2.2.2.2.2.2.1
@[irreducible] noncomputable def base : Heap := d.2.2.2.2.2.2.2.2.2.2.2.2.2.2.2.2.1
@[irreducible] noncomputable def g : Heap := d.2.2.2.2.2.2.2.2.2.2.2.2.2.2.2.2.2.1
@[irreducible] noncomputable def L : Addr := d.2.2.2.2.2.2.2.2.2.2.2.2.2.2.2.2.2.2.1
@[irreducible] noncomputable def h₁ : Heap := d.2.2.2.2.2.2.2.2.2.2.2.2.2.2.2.2.2.2.2.1
@[irreducible] noncomputable def rest : List (Addr × Obj) := d.2.2.2.2.2.2.2.2.2.2.2.2.2.2.2.2.2.2.2.2.1
@[irreducible] noncomputable def s : Shared := d.2.2.2.2.2.2.2.2.2.2.2.2.2.2.2.2.2.2.2.2.2.1
@[irreducible] noncomputable def tk : Nat := d.2.2.2.2.2.2.2.2.2.2.2.2.2.2.2.2.2.2.2.2.2.2
set_option maxRecDepth 100000 in
set_option maxHeartbeats 4000000 in
theorem core : mark PySem.Challenge.rw_us0019_01 K01 (G w X sv cs k line tl yl mean mg mb dp un gd outer A₀ base g L h₁ rest s tk) := by
  k_fill
  unfold mark G PlainH
  (try dsimp only [pa7_1, bd7_1, sc7_1])
  intro hX hsv hok hlen hl0 hl1
  intro B K T F N hR hE hsep hd hu
  simp only [List.cons_append, List.nil_append] at N
  have hs (q : Addr × Obj) (hq : q ∈ X.obs w line tl yl ++ X.rd sv k) : ∀ p ∈ rest, p.1 ≠ q.1 := fun p hp => hsep p hp q hq
  have hs1 := hs _ (.head _)
  have hs2 := hs _ (.tail _ (.head _))
  have hs3 := hs _ (.tail _ (.tail _ (.head _)))
  have hs4 := hs _ (.tail _ (.tail _ (.tail _ (.head _))))
  have hs5 := hs _ (.tail _ (.tail _ (.tail _ (.tail _ (.head _)))))
  have hs6 := hs _ (.tail _ (.tail _ (.tail _ (.tail _ (.tail _ (.head _))))))
  have hs7 := hs _ (.tail _ (.tail _ (.tail _ (.tail _ (.tail _ (.tail _ (.head _)))))))
  have hs8 := hs _ (.tail _ (.tail _ (.tail _ (.tail _ (.tail _ (.tail _ (.tail _ (.head _))))))))
  clear hs hsep hE
  dsimp only at hs1 hs2 hs3 hs4 hs5 hs6 hs7 hs8
  refine pack fun G9 hG9 => ?_
  obtain ⟨o1, o2, o3, o4, o5, o6, o7, o8⟩ := hX.ord
  refine hG9 ?_
  clear hG9
  have C160 := codeHd160 K
  k_steps
  unfold Stop
  refine spec_use (law_read (w := w) (qual := X.qual) (doc := X.doc) (pm := X.pm) (ctv := X.ctv) (f := X.f) (cd := X.cd) (c := X.c) (sg := X.sg) (k := k) 1 _ hX.hn hX.hoc hX.hov hX.hcell hsv hok hlen ⟨o1, o2, o3⟩) (X.obs w line tl yl ++ rest) (by assumption) (by assumption) (by assumption) (by assumption) (by assumption) rfl (by omega) (by omega) ?perm (by simp only [Lx.obs, Lx.rd, List.cons_append, List.nil_append]; (((repeat (with_reducible refine sep_cons (by (try dsimp only); k_all) ?_)); exact sep_nil))) ?_
  case perm => simp only [Lx.obs, List.cons_append, List.nil_append]; (((try simp only [List.cons_append, List.nil_append]); refine (?_ : HintTo _ _ _ _) (by repeat' (with_reducible (first | exact pkA | apply pkB | apply pkC | exact pkD | apply pkE | exact pkF | apply pkG))); exact fun _ => sub_pick rfl))
  intro r E' h' tk' hPk1 F' N' _
  refine pack fun G9 hG9 => ?_
  obtain ⟨sv', k', t', rfl, hsv', rfl⟩ := hPk1
  refine hG9 ?_
  clear hG9
  simp only [List.cons_append, List.nil_append] at N'
  dsimp only
  k_steps
  · rename (hdS cs == _) = true => hq
    refine' Back.intro (X.obs w (line + isNl cs) _ yl ++ X.rd sv' k') (by assumption) (news_sub (by assumption) ?mem) ⟨_, _, _, _, rfl, hsv', rfl⟩ (NewOk.same rfl)
    case mem => rw [nl_true hq]; simp only [Lx.obs, Lx.rd, List.cons_append, List.nil_append]; (((try simp only [List.cons_append, List.nil_append]); refine (?_ : HintTo _ _ _ _) (by repeat' (with_reducible (first | exact pkA | apply pkB | apply pkC | exact pkD | apply pkE | exact pkF | apply pkG))); exact fun _ => sub_pick rfl))
  · rename (hdS cs == _) = false => hq
    refine' Back.intro (X.obs w (line + isNl cs) _ yl ++ X.rd sv' k') (by assumption) (news_sub (by assumption) ?mem) ⟨_, _, _, _, rfl, hsv', rfl⟩ (NewOk.same rfl)
    case mem => rw [nl_false hq, Int.add_zero]; simp only [Lx.obs, Lx.rd, List.cons_append, List.nil_append]; (((try simp only [List.cons_append, List.nil_append]); refine (?_ : HintTo _ _ _ _) (by repeat' (with_reducible (first | exact pkA | apply pkB | apply pkC | exact pkD | apply pkE | exact pkF | apply pkG))); exact fun _ => sub_pick rfl))
theorem all (d : D) : H d := by
  refine eps_all ne H ?_ d
  have h := core
  unfold mark w X sv cs k line tl yl mean mg mb dp un gd outer A₀ base g L h₁ rest s tk NRc.d at h
  exact h
end NRc
set_option maxRecDepth 100000 in
set_option maxHeartbeats 4000000 in
theorem read_char {w : World} (X : Lx) (hX : X.Ok) {sv : List Value} {cs : List Nat} {k : Nat} {line : Int} {tl : Tok} {yl : Value} (hsv : StrsAre sv (cs.map one)) (hok : StrsOk (cs.map one)) (hlen : cs.length < 1000000) (hl0 : 0 ≤ line) (hl1 : line < 2 ^ 40) : mark PySem.Challenge.rw_us0019_01 K01
   (Spec w 69 [.ref X.x] [] 20 200 (X.obs w line tl yl ++ X.rd sv k)
     fun r E' => ∃ sv' k' t' tl', r = .str (hdS cs) t' ∧ StrsAre sv' (cs.tail.map one) ∧ E' = X.obs w (line + isNl cs) tl' yl ++ X.rd sv' k') := by
  ((k_fill; unfold mark; (k_dflt (refine' spec_plain ?ho ?hcd ?hd1 ?hb ?hl ?hco ?hg ?hk ?hce ?_; (case ho => k_is); (case hcd => k_is); (case hd1 => decide); (case hb => intro _ KX; first | exact BindsTo.of_eq rfl | exact binds_K KX rfl (by k_is) rfl rfl rfl); (case hl => exact locs rfl); (case hco => exact rfl); (case hg => exact rfl); (case hk => exact rfl); (case hce => decide)); (try dsimp only [pa7_1, bd7_1, sc7_1]))))
  intro mean mg mb dp un gd outer A₀ base g L h₁ rest s tk
  exact NRc.all ⟨w, X, sv, cs, k, line, tl, yl, mean, mg, mb, dp, un, gd, outer, A₀, base, g, L, h₁, rest, s, tk⟩ hX hsv hok hlen hl0 hl1
end
section
set_option maxRecDepth 100000
theorem slot_ci_next : Slot "callable_iterator" "__next__" "callable_iterator.__next__" :=
  .of (owner := "callable_iterator") (n := "__next__") (by rw [typeLookup_type, builtinLookup_eq_fast]; kernel_rfl) (by decide +kernel) (by decide +kernel) (by decide +kernel)
    (by first | exact .inl (by decide +kernel) | exact .inr (by decide +kernel)) (by rw [isSubtype_type]; kernel_rfl)
theorem slot_ci_iter : Slot "callable_iterator" "__iter__" "callable_iterator.__iter__" :=
  .of (owner := "callable_iterator") (n := "__iter__") (by rw [typeLookup_type, builtinLookup_eq_fast]; kernel_rfl) (by decide +kernel) (by decide +kernel) (by decide +kernel)
    (by first | exact .inl (by decide +kernel) | exact .inr (by decide +kernel)) (by rw [isSubtype_type]; kernel_rfl)
theorem entry_ci_next : entryFor table "callable_iterator.__next__" = some Builtin.«callable_iterator.__next__» := entryFor_of_fast (by kernel_rfl)
theorem entry_ci_iter : entryFor table "callable_iterator.__iter__" = some Builtin.«dict_keyiterator.__iter__» :=
  entryFor_alias (id' := "dict_keyiterator.__iter__") (by kernel_rfl) rfl (by decide +kernel) (by kernel_rfl)
theorem args_ci_next (a : Value) : argsOk "callable_iterator.__next__" ⟨[a], []⟩ := by unfold argsOk; kernel_rfl
theorem args_ci_iter (a : Value) : argsOk "callable_iterator.__iter__" ⟨[a], []⟩ := by unfold argsOk; kernel_rfl
theorem args_iter2 (a b : Value) : argsOk "iter" ⟨[a, b], []⟩ := by unfold argsOk; kernel_rfl
noncomputable abbrev ciObj (f sent : Value) : Obj := { cls := .type "callable_iterator", data := .fields #[f, sent, .bool false] }
theorem callBorrowed_eq (f : Value) (pos : List Value) : callBorrowed f pos = (call f pos).keep [borrowed] := by
  unfold callBorrowed call runValue
  show _ = (Sem.keep [borrowed] (Sem.call _ none false [] _))
  simp only [Sem.keep, List.append_nil]
  congr 1
  funext x
  match x with
  | .ok (.ret v) => rfl
  | .ok .next => rfl
  | .ok .brk => rfl
  | .ok .cont => rfl
  | .error e => rfl
section
variable {prog : Program} {w : World} {A : Around} {E : Value → Shared → Prop} {s : Shared} {h₀ : Heap} {L D mo fa : Addr} {m : PySem.Str → Option Value} {news news' : List (Addr × Obj)} {self sent : Value} {K : Frag}
theorem wpAny_pyIter_ci {Q : Value → Shared → Prop} (hT : s.TypeIs (.ref D) "callable_iterator") (h : Q (.ref D) s) : wpAny (model prog w) A (pyIter (.ref D)) Q E s := by
  refine wpAny_pyIter_slot hT slot_ci_iter (wpAny_call_entry slot_ci_iter hT entry_ci_iter ?_ (args_ci_iter _))
  show wpAny _ _ (ret (.ref D)) _ _ s
  exact wpAny_pure ⟨_, rfl, "callable_iterator", _, hT, slot_ci_next.lookup, h⟩
theorem wpAny_borrows {fo : Obj} {fd} {Q : Bool → Shared → Prop} (hM : s.heap.get? mo = some (methodObj (.ref fa) self)) (hF : s.heap.get? fa = some fo) (hd : fo.data = .func fd) (hQ : Q true s) :
    wpAny (model prog w) A (borrowsExactly (.ref mo)) Q E s := by
  unfold borrowsExactly
  refine wpAny_bind (wpAny_load hM ?_)
  show wpAny _ _ (load fa >>= _) _ _ s
  refine wpAny_bind (wpAny_load hF ?_)
  rw [hd]
  exact wpAny_pure hQ
theorem wpAny_callOut {fo : Obj} {fd} {Q : Value → Shared → Prop} (hM : s.heap.get? mo = some (methodObj (.ref fa) self)) (hF : s.heap.get? fa = some fo) (hd : fo.data = .func fd)
    (h : codeAny (model prog w) A (.call (.ref fa) ⟨[self], []⟩) (fun r s' => match r with | .ok (.ret v) => Q v s' | .ok _ => False | .error e => E e s') s) :
    wpAny (model prog w) A (callOutOfASlot (.ref mo)) Q E s := by
  unfold callOutOfASlot
  refine wpAny_bind (wpAny_borrows hM hF hd ?_)
  show wpAny _ _ (callBorrowed (.ref mo) []) _ _ s
  rw [callBorrowed_eq]
  exact Calls.wpAny_keep (wpAny_call (method_call hM h))
noncomputable abbrev ciEnd : Obj := { cls := .type "callable_iterator", data := .fields #[.none, .none, .bool true] }
theorem ci_next {x : PySem.Str} {t : Tok} {fo : Obj} {fd} {Q : Option Value → Shared → Prop} (hh : A.handled = none) (hD : s.heap.get? D = some (ciObj (.ref mo) (.str x t)))
    (hM : s.heap.get? mo = some (methodObj (.ref fa) self)) (hF : s.heap.get? fa = some fo) (hd : fo.data = .func fd)
    (h : codeAny (model prog w) A.in1 (.call (.ref fa) ⟨[self], []⟩) (fun r s' => match r with
      | .ok (.ret v) => ∃ c tc, v = .str c tc ∧ s'.heap.get? D = some (ciObj (.ref mo) (.str x t)) ∧ s'.heap.get? mo = some (methodObj (.ref fa) self) ∧ s'.heap.get? fa = some fo ∧
          ((x == c) = false → Q (some v) s') ∧ ((x == c) = true → ∀ h', Heap.ExtBut D s'.heap h' → h'.get? D = some ciEnd → Q none { s' with heap := h' })
      | .ok _ => False
      | .error _ => False) s) : wpAny (model prog w) A (pyNext (.ref D)) Q E s := by
  have hT : s.TypeIs (.ref D) "callable_iterator" := ⟨_, hD, rfl⟩
  unfold pyNext
  refine wpAny_bind (wpAny_attempt (wpAny_callSpecial?_slot (name := PySem.Str.ofString "__next__") hT slot_ci_next
    (wpAny_call_entry slot_ci_next hT entry_ci_next ?_ (args_ci_next _))))
  show wpAny _ _ (field (.ref D) 2 >>= _) _ _ s
  refine wpAny_bind (wpAny_field hD rfl (x := .bool false) rfl ?_)
  show wpAny _ _ (if (Value.bool false == Value.bool true) = true then _ else _) _ _ s
  rw [if_neg (show ¬ ((Value.bool false == Value.bool true) = true) by decide)]
  show wpAny _ _ (field (.ref D) 0 >>= _) _ _ s
  refine wpAny_bind (wpAny_field hD rfl (x := .ref mo) rfl ?_)
  refine wpAny_bind (wpAny_attempt (wpAny_callOut hM hF hd ?_))
  refine codeAny_mono h fun r s' hr => ?_
  match r, hr with
  | .ok (.ret v), hr =>
    refine pack fun G9 hG9 => ?_
    obtain ⟨c, tc, rfl, hD', hM', hF', hq1, hq2⟩ := hr
    refine hG9 ?_
    clear hG9
    show wpAny _ _ (field (.ref D) 2 >>= _) _ _ s'
    refine wpAny_bind (wpAny_field hD' rfl (x := .bool false) rfl ?_)
    show wpAny _ _ (if (Value.bool false == Value.bool true) = true then _ else _) _ _ s'
    rw [if_neg (show ¬ ((Value.bool false == Value.bool true) = true) by decide)]
    show wpAny _ _ (field (.ref D) 1 >>= _) _ _ s'
    refine wpAny_bind (wpAny_field hD' rfl (x := .str x t) rfl ?_)
    refine wpAny_bind (wpAny_holding (eqBool_str ?_))
    cases hx : (x == c) with
    | false =>
      show wpAny _ _ (ret _ >>= _) _ _ s'
      refine wpAny_bind (wpAny_pure (wpAny_pure ⟨_, rfl, ?_⟩))
      exact wpAny_pure (hq1 hx)
    | true =>
      refine wpAny_bind (wpAny_rule ?_)
      refine wpAny_bind ?_
      show wpAny _ _ (field (.ref D) 0 >>= _) _ _ s'
      refine wpAny_bind (wpAny_field hD' rfl (x := .ref mo) rfl ?_)
      refine wpAny_bind ?_
      show wpAny _ _ (borrowsExactly (.ref mo) >>= _) _ _ s'
      refine wpAny_bind (wpAny_borrows hM' hF' hd ?_)
      refine wpAny_pure ?_
      refine wpAny_bind (wpAny_setField hD' rfl (by show (0 : Nat) < 3; decide) ?_)
      have hD1 : (s'.heap.update D (Obj.mapFields (·.setIfInBounds 0 .none))).get? D = some { cls := .type "callable_iterator", data := .fields #[.none, .str x t, .bool false] } := Heap.get?_update_self _ hD' (by rfl)
      refine wpAny_bind (wpAny_setField hD1 rfl (by show (1 : Nat) < 3; decide) ?_)
      have hD2 := Heap.get?_update_self (Obj.mapFields (·.setIfInBounds 1 .none)) hD1 (by rfl)
      refine wpAny_setField hD2 rfl (by show (2 : Nat) < 3; decide) ?_
      have hD3 := Heap.get?_update_self (Obj.mapFields (·.setIfInBounds 2 (.bool true))) hD2 (by rfl)
      show wpAny _ _ (newExc (.type "StopIteration") [] >>= _) _ _ _
      refine wpAny_bind ?_
      simp only [newExc, newTuple]
      refine wpAny_bind (wpAny_newObj_type ?_ (by size_fits))
      refine wpAny_bind (m := firstArgMember _ _) (wpAny_of_eq (a := Value.none) (by first | rfl | (simp only [firstArgMember]; rfl)) ?_)
      refine wpAny_newObj_type ?_ (by size_fits)
      unfold raiseNew
      refine wpAny_bind (wpAny_handled ?_)
      rw [show A.in1.handled = none from hh]
      refine wpAny_bind (wpAny_pure (wpAny_throw ?_))
      refine wpAny_bind (wpAny_isInstance (T := "StopIteration") (b := true) ⟨_, Heap.get?_push_size _ rfl, rfl⟩ isSubtype_stop ?_)
      refine wpAny_pure (hq2 hx _ ((((((Heap.SameBut.update ..).trans (Heap.SameBut.update ..)).trans (Heap.SameBut.update ..)).extBut.push _).push _)) ?_)
      exact Heap.get?_push_of_some _ (Heap.get?_push_of_some _ hD3)
theorem look_meth_call : typeLookup (.type "method") (PySem.Str.ofString "__call__") = pure (some (.builtin "method.__call__")) := by rw [typeLookup_type, builtinLookup_eq_fast]; kernel_rfl
theorem iter2_K {q : Addr} {Q : Value → Shared → Prop} (F : Fr h₀ L s.heap m) (N : News h₀ L s.heap news) (hM : (q, methodObj (.ref fa) self) ∈ news)
    (h : ∀ D h', Fr h₀ L h' m → News h₀ L h' ((D, ciObj (.ref q) sent) :: news) → (∀ p ∈ news, p.1 < D) → Q (.ref D) { s with heap := h' }) :
    wpAny (model prog w) A (call (.builtin "iter") [.ref q, sent]) Q E s := by
  refine call_function_entry (by decide +kernel) (by decide +kernel) kdk_entry_iter (args_iter2 _ _) ?_
  unfold Builtin.«iter»
  refine wpAny_bind (m := someArgs "iter" 1 2 _) (wpAny_of_eq (a := [Value.ref q, sent]) (by first | rfl | kernel_rfl!) ?_)
  dsimp only
  refine wpAny_bind (wpAny_specialOf (name := PySem.Str.ofString "__call__") (T := "method") ⟨_, (N _ hM).1, rfl⟩ look_meth_call ?_)
  refine wpAny_ite_split (fun hab => absurd hab (by decide)) (fun _ => ?_)
  refine wpAny_bind (wpAny_rule ?_)
  refine wpAny_bind (wpAny_newObj_type ?_ (by size_fits))
  exact wpAny_pure ⟨_, rfl, h _ _ (F.push _) (N.push F _) fun p hp => Heap.lt_size (N p hp).1⟩
end
end
local macro_rules | `(tactic| walk_at "call builtin:iter") => `(tactic| (k_here; (with_reducible show wpAny _ _ (call (Value.builtin "iter") [Value.ref _, _]) _ _ _); k_dflt (refine' iter2_K ?F ?N ?p ?_; (case F => k_asm); (case N => k_asm); (case p => k_mem); k_whole); intro D' h' F' N' l1; (try k_lt l1)))
section
set_option maxRecDepth 100000
end
section
noncomputable abbrev Lx.led (w : World) (X : Lx) (line : Int) (tl : Tok) (yl : Value) (sv : List Value) (k : Nat) (ps : List Value) (kp : Nat) : List (Addr × Obj) :=
  X.obs w line tl yl ++ X.rd sv k ++ [(X.pb, listOf ps.toArray kp)]
theorem Lx.pb_mem {w : World} {X : Lx} {line : Int} {tl : Tok} {yl : Value} {sv : List Value} {k : Nat} {ps : List Value} {kp : Nat} : (X.pb, listOf ps.toArray kp) ∈ X.led w line tl yl sv k ps kp := List.mem_append_right _ (.head _)
noncomputable def nls : List Nat → Int
  | [] => 0
  | a :: r => isNl (a :: r) + nls r
theorem isNl_cons {a b : Nat} {r q : List Nat} (h : a = b) : isNl (a :: r) = isNl (b :: q) := by
  subst h
  by_cases e : a = 10
  · subst e; rfl
  · unfold isNl
    split
    · rename_i h; cases h; exact absurd rfl e
    · split
      · rename_i h; cases h; exact absurd rfl e
      · rfl
theorem e0 : PySem.Str.ofString "" = ⟨#[]⟩ := by decide +kernel
theorem nls_ge : ∀ {l : List Nat}, 0 ≤ nls l
  | [] => Int.le_refl _
  | a :: r => by
    have := @nls_ge r
    unfold nls isNl
    split <;> omega
theorem nls_tail {l : List Nat} : nls l = isNl l + nls l.tail := by
  cases l with
  | nil => rfl
  | cons a r => rfl
theorem nls_le : ∀ {l : List Nat}, nls l ≤ l.length
  | [] => Int.le_refl _
  | a :: r => by
    have := @nls_le r
    rw [nls_tail, List.tail_cons, List.length_cons]
    unfold isNl
    split <;> omega
set_option genSizeOf false in
set_option genInjectivity false in
structure LD where
  (sv : List Value) (k : Nat) (line : Int) (tl : Tok) (h : Heap) (tk : Nat) (m : PySem.Str → Option Value)
structure LF (w : World) (X : Lx) (yl : Value) (kp : Nat) (g : Heap) (L : Addr) (rest : List (Addr × Obj)) (D mo : Addr) (te : Tok) (J : List Nat → (PySem.Str → Option Value) → Prop) (tot : Int) (cs : List Nat) (q : LD) : Prop where
  F : Fr g L q.h q.m
  N : News g L q.h ((D, ciObj (.ref mo) (.str (PySem.Str.ofString "") te)) :: (mo, methodObj (.ref 69) (.ref X.x)) :: (X.led w q.line q.tl yl q.sv q.k [] kp ++ rest))
  hsv : StrsAre q.sv (cs.map one)
  hok : StrsOk (cs.map one)
  hJ : J cs q.m
  hline : q.line + nls cs = tot
  hl0 : 0 ≤ q.line
noncomputable def LexQ (w : World) (X : Lx) (yl : Value) (kp : Nat) (g : Heap) (L : Addr) (rest : List (Addr × Obj)) (s : Shared) (D mo : Addr) (te : Tok) (J : List Nat → (PySem.Str → Option Value) → Prop) (tot : Int) (cs : List Nat) (s' : Shared) : Prop :=
  ∃ q : LD, s' = { s with heap := q.h, toks := q.tk } ∧ LF w X yl kp g L rest D mo te J tot cs q
noncomputable abbrev noE : Value → Shared → Prop := fun _ _ => False
noncomputable def ForStep (I : Nat → Shared → Prop) (n : Nat) (Q : Flow → Shared → Prop) (f : Flow) (s₃ : Shared) : Prop := match f with
  | .next | .cont => ∃ m, m < n ∧ I m s₃
  | .brk => Q .next s₃
  | .ret v => Q (.ret v) s₃
theorem ForStep.next {I : Nat → Shared → Prop} {n m : Nat} {Q : Flow → Shared → Prop} {s : Shared} (h : I m s) (hm : m < n) : ForStep I n Q .next s := ⟨m, hm, h⟩
theorem ForStep.cont {I : Nat → Shared → Prop} {n m : Nat} {Q : Flow → Shared → Prop} {s : Shared} (h : I m s) (hm : m < n) : ForStep I n Q .cont s := ⟨m, hm, h⟩
noncomputable def ItLoop (prog : Program) (w : World) (A : Around) (env : Env) (x : PySem.Str) (body : List Stmt) (Q : Flow → Shared → Prop) (it : Value) (s₂ : Shared) : Prop :=
  ∃ (I : Nat → Shared → Prop) (n : Nat), I n s₂ ∧ ∀ n s, I n s → wpAny (model prog w) A (pyNext it) (fun r s₁ => match r with
      | none => Q .next s₁
      | some v => wpAny (model prog w) A (storeName env x v) (fun _ s₂ => wpAny (model prog w) A (execs body env) (ForStep I n Q) noE s₂) noE s₁) noE s
theorem For_it {prog : Program} {w : World} {A : Around} {env : Env} {s : Shared} {x : PySem.Str} {px pos : Pos} {iter : Expr} {body : List Stmt} {Q : Flow → Shared → Prop}
    (h : wpAny (model prog w) A (eval iter env) (fun xv s₁ => wpAny (model prog w) A (pyIter xv) (ItLoop prog w A env x body Q) noE s₁) noE s)
    (hs : ∀ x, foldedSetIterable iter env x = pure x := by intro _; rfl) :
    wpAny (model prog w) A (exec (.For (.Name x px) iter body [] pos) env) Q noE s := by
  refine wpAny_For (wpAny_mono h (fun xv s₁ h₁ => wpAny_mono h₁ (fun it s₂ h₂ => ?_) fun _ _ e => e) fun _ _ e => e) hs
  refine pack fun G9 hG9 => ?_
  obtain ⟨I, n, h0, turn⟩ := h₂
  refine hG9 ?_
  clear hG9
  refine codeAny_forLoop (R := fun r s' => match r with | .ok f => Q f s' | .error e => cameBackBy (model prog w) A env noE e s') I (fun n s hI => ?_) n h0
  refine wpAny_mono (turn n s hI) (fun r s₁ hr => ?_) fun _ _ e => e.elim
  cases r with
  | none => exact wpAny_execs_nil hr
  | some v =>
    refine wpAny_assign_Name (wpAny_mono hr (fun _ s₂ h₂ => wpAny_mono h₂ (fun f s₃ h₃ => ?_) fun _ _ e => e.elim) fun _ _ e => e.elim)
    cases f <;> exact h₃
theorem ci_next' {prog : Program} {w : World} {A : Around} {s : Shared} {D mo fa : Addr} {self : Value} {x : PySem.Str} {t : Tok} {fo : Obj} {fd} {Q : Option Value → Shared → Prop} {Q₁ : Value → Shared → Prop} (hh : A.handled = none) (hD : s.heap.get? D = some (ciObj (.ref mo) (.str x t)))
    (hM : s.heap.get? mo = some (methodObj (.ref fa) self)) (hF : s.heap.get? fa = some fo) (hd : fo.data = .func fd)
    (h : codeAny (model prog w) A.in1 (.call (.ref fa) ⟨[self], []⟩) (fun r s' => match r with | .ok (.ret v) => Q₁ v s' | .ok _ => False | .error e => noE e s') s)
    (hq : ∀ v s', Q₁ v s' → ∃ c tc, v = .str c tc ∧ s'.heap.get? D = some (ciObj (.ref mo) (.str x t)) ∧ s'.heap.get? mo = some (methodObj (.ref fa) self) ∧ s'.heap.get? fa = some fo ∧
          ((x == c) = false → Q (some v) s') ∧ ((x == c) = true → ∀ h', Heap.ExtBut D s'.heap h' → h'.get? D = some ciEnd → Q none { s' with heap := h' })) : wpAny (model prog w) A (pyNext (.ref D)) Q noE s := by
  refine ci_next hh hD hM hF hd (codeAny_mono h fun r s' hr => ?_)
  match r, hr with
  | .ok (.ret v), hr => exact hq v s' hr
noncomputable def Lx.Sep (X : Lx) (rest : List (Addr × Obj)) : Prop := ∀ p ∈ rest, p.1 ≠ X.x ∧ p.1 ≠ X.dx ∧ p.1 ≠ X.y ∧ p.1 ≠ X.dy ∧ p.1 ≠ X.f ∧ p.1 ≠ X.cd ∧ p.1 ≠ X.c ∧ p.1 ≠ X.sg ∧ p.1 ≠ X.pb
theorem Lx.Sep.cons {X : Lx} {rest : List (Addr × Obj)} {p : Addr × Obj} (h : X.Sep rest) (h1 : p.1 ≠ X.x ∧ p.1 ≠ X.dx ∧ p.1 ≠ X.y ∧ p.1 ≠ X.dy ∧ p.1 ≠ X.f ∧ p.1 ≠ X.cd ∧ p.1 ≠ X.c ∧ p.1 ≠ X.sg ∧ p.1 ≠ X.pb) : X.Sep (p :: rest) := fun q hq => by
  rcases List.mem_cons.mp hq with rfl | hq
  · exact h1
  · exact h q hq
theorem Lx.Ok.above {X : Lx} (hX : X.Ok) {b : Addr} (h : @LT.lt Nat _ X.pb b) : b ≠ X.x ∧ b ≠ X.dx ∧ b ≠ X.y ∧ b ≠ X.dy ∧ b ≠ X.f ∧ b ≠ X.cd ∧ b ≠ X.c ∧ b ≠ X.sg ∧ b ≠ X.pb := by
  refine pack fun G9 hG9 => ?_
  obtain ⟨o1, o2, o3, o4, o5, o6, o7, o8⟩ := hX.ord
  refine hG9 ?_
  clear hG9
  have h7 := Nat.lt_trans o8 h
  have h6 := Nat.lt_trans o7 h7
  have h5 := Nat.lt_trans o6 h6
  have h4 := Nat.lt_trans o5 h5
  have h3 := Nat.lt_trans o4 h4
  have h2 := Nat.lt_trans o3 h3
  have h1 := Nat.lt_trans o2 h2
  exact ⟨@Nat.ne_of_gt _ _ h7, @Nat.ne_of_gt _ _ h6, @Nat.ne_of_gt _ _ h5, @Nat.ne_of_gt _ _ h4, @Nat.ne_of_gt _ _ h3, @Nat.ne_of_gt _ _ h2, @Nat.ne_of_gt _ _ (Nat.lt_trans o1 h1), @Nat.ne_of_gt _ _ h1, @Nat.ne_of_gt _ _ h⟩
theorem Lx.Ok.pbs {X : Lx} (hX : X.Ok) {rest : List (Addr × Obj)} {o : Obj} {w : World} {line tl yl sv k} (h : X.Sep rest) : ∀ p ∈ (X.pb, o) :: rest, ∀ q ∈ X.obs w line tl yl ++ X.rd sv k, p.1 ≠ q.1 := by
  refine pack fun G9 hG9 => ?_
  obtain ⟨o1, o2, o3, o4, o5, o6, o7, o8⟩ := hX.ord
  refine hG9 ?_
  clear hG9
  intro p hp q hq
  have : p.1 ≠ X.x ∧ p.1 ≠ X.dx ∧ p.1 ≠ X.y ∧ p.1 ≠ X.dy ∧ p.1 ≠ X.f ∧ p.1 ≠ X.cd ∧ p.1 ≠ X.c ∧ p.1 ≠ X.sg := by
    rcases List.mem_cons.mp hp with rfl | hp
    · have h6 := Nat.lt_trans o7 o8
      have h5 := Nat.lt_trans o6 h6
      have h4 := Nat.lt_trans o5 h5
      have h3 := Nat.lt_trans o4 h4
      have h2 := Nat.lt_trans o3 h3
      have h1 := Nat.lt_trans o2 h2
      exact ⟨@Nat.ne_of_gt _ _ o8, @Nat.ne_of_gt _ _ h6, @Nat.ne_of_gt _ _ h5, @Nat.ne_of_gt _ _ h4, @Nat.ne_of_gt _ _ h3, @Nat.ne_of_gt _ _ h2, @Nat.ne_of_gt _ _ (Nat.lt_trans o1 h1), @Nat.ne_of_gt _ _ h1⟩
    · refine pack fun G9 hG9 => ?_
      obtain ⟨a1, a2, a3, a4, a5, a6, a7, a8, a9⟩ := h p hp
      refine hG9 ?_
      clear hG9
      exact ⟨a1, a2, a3, a4, a5, a6, a7, a8⟩
  refine pack fun G9 hG9 => ?_
  obtain ⟨a1, a2, a3, a4, a5, a6, a7, a8⟩ := this
  refine hG9 ?_
  clear hG9
  simp only [Lx.obs, Lx.rd, List.cons_append, List.nil_append, List.mem_cons, List.not_mem_nil, or_false] at hq
  rcases hq with rfl | rfl | rfl | rfl | rfl | rfl | rfl | rfl <;> assumption
section
variable {w : World} (X : Lx) (hX : X.Ok) {yl : Value} {kp : Nat}
  {mean : ExcName → Option Value} {mg mb : PySem.Str → Option Value} {dp un : Nat} {gd : Option (List Code)} {cn : PySem.Str} {sc : Scope} {a : Addr} {ccd : Value} {cl : List (PySem.Str × Addr)} {outer : List Env} {A₀ : Around} {base g : Heap} {L : Addr} {rest : List (Addr × Obj)} {s : Shared} {D mo : Addr} {te : Tok}
include hX in
theorem lx_next (B : Below A₀ base outer g) (K : (K01 w.params).In g) (T : Top topProg looseQ mean mg mb g) (hk : sc.kind = .function) (hd : dp + 20 < recursionLimit) (hu : un + 1 + 200 < cLine)
    (hsep : X.Sep rest) (hrD : ∀ p ∈ rest, p.1 ≠ D) (hmo : @LT.lt Nat _ X.pb mo) (hDm : @LT.lt Nat _ mo D)
    {J : List Nat → (PySem.Str → Option Value) → Prop} {tot : Int} {cs : List Nat} {s' : Shared} {Q : Option Value → Shared → Prop} (h0 : LexQ w X yl kp g L rest s D mo te J tot cs s') (hlen : cs.length < 1000000) (htot : tot < 2 ^ 39)
    (hend : cs = [] → ∀ sv k tl h tk m, Fr g L h m → News g L h (X.led w tot tl yl sv k [] kp ++ rest) → StrsAre sv [] → J [] m → Q none { s with heap := h, toks := tk })
    (hgo : ∀ c r t, cs = c :: r → ∀ s'', LexQ w X yl kp g L rest s D mo te (fun _ m => J cs m) tot r s'' → Q (some (.str (one c) t)) s'') :
    wpAny (model P1 w) (ktrTop dp un gd cn sc L a ccd cl outer) (pyNext (.ref D)) Q noE s' := by
  refine pack fun G9 hG9 => ?_
  obtain ⟨⟨sv, k, line, tl, h, tk, m⟩, rfl, ⟨F, N, hsv, hok, hJ, hline, hl0⟩⟩ := h0
  refine hG9 ?_
  clear hG9
  dsimp only at *
  have hn := nls_ge (l := cs)
  have N1 := N _ (.head _)
  have N2 := N _ (.tail _ (.head _))
  obtain ⟨fo, fd, hfo, hfd⟩ : ∃ fo fd, (K01 w.params).lookup 69 = some fo ∧ fo.data = .func fd := ⟨_, _, rfl, rfl⟩
  have hA := hX.above hmo
  have hB := hX.above (Nat.lt_trans hmo hDm)
  refine ci_next' rfl N1.1 N2.1 (F.keep _ _ (K _ _ hfo)) hfd (Q₁ := fun v s'' => ∃ c tc sv' k' tl' h' tk', v = .str c tc ∧ c = hdS cs ∧ s'' = { s with heap := h', toks := tk' } ∧ Fr g L h' m ∧ News g L h' (X.obs w (line + isNl cs) tl' yl ++ X.rd sv' k' ++ ((X.pb, listOf [].toArray kp) :: (D, ciObj (.ref mo) (.str (PySem.Str.ofString "") te)) :: (mo, methodObj (.ref 69) (.ref X.x)) :: rest)) ∧ StrsAre sv' (cs.tail.map one)) ?_ ?_
  · refine (read_char (w := w) X hX (line := line) (tl := tl) (yl := yl) (k := k) hsv hok hlen hl0 (by omega)) mean mg mb dp (un + 1) gd cn sc a ccd cl outer A₀ base g L m ((X.pb, listOf [].toArray kp) :: (D, ciObj (.ref mo) (.str (PySem.Str.ofString "") te)) :: (mo, methodObj (.ref 69) (.ref X.x)) :: rest) _ _ _ B F K (fun p hp => N p ?_) T hk hd (by omega) ?_ ?_
    · revert p
      simp only [Lx.led, Lx.obs, Lx.rd, List.cons_append, List.nil_append]; (((try simp only [List.cons_append, List.nil_append]); refine (?_ : HintTo _ _ _ _) (by repeat' (with_reducible (first | exact pkA | apply pkB | apply pkC | exact pkD | apply pkE | exact pkF | apply pkG))); exact fun _ => sub_pick rfl))
    · exact hX.pbs ((hsep.cons hA).cons hB)
    · intro r E' h' tk' hPk1 F' N' _
      refine pack fun G9 hG9 => ?_
      obtain ⟨sv', k', t', tl', rfl, hsv', rfl⟩ := hPk1
      refine hG9 ?_
      clear hG9
      exact ⟨_, _, sv', k', tl', h', tk', rfl, rfl, rfl, F', N', hsv'⟩
  · intro v s'' hPk2
    refine pack fun G9 hG9 => ?_
    obtain ⟨c, tc, sv', k', tl', h', tk', rfl, rfl, rfl, F', N', hsv'⟩ := hPk2
    refine hG9 ?_
    clear hG9
    refine ⟨_, _, rfl, (N' (D, ciObj (.ref mo) (.str (PySem.Str.ofString "") te)) (by k_mem)).1, (N' (mo, methodObj (.ref 69) (.ref X.x)) (by k_mem)).1, F'.keep _ _ (K _ _ hfo), fun he => ?_, fun he => ?_⟩
    · cases cs with
      | nil => exact absurd he (by decide +kernel)
      | cons c r =>
        refine hgo c r _ rfl _ ⟨⟨sv', k', line + isNl (c :: r), tl', h', tk', m⟩, rfl, ⟨F', news_sub N' ?_, hsv', fun x hx => hok x (.tail _ hx), hJ, ?_, ?_⟩⟩
        · simp only [Lx.led, Lx.obs, Lx.rd, List.cons_append, List.nil_append]; (((try simp only [List.cons_append, List.nil_append]); refine (?_ : HintTo _ _ _ _) (by repeat' (with_reducible (first | exact pkA | apply pkB | apply pkC | exact pkD | apply pkE | exact pkF | apply pkG))); exact fun _ => sub_pick rfl))
        · dsimp only; rw [← hline, nls_tail (l := c :: r), List.tail_cons]; omega
        · dsimp only; unfold isNl; split <;> omega
    · intro h9 hs9 h9D
      cases cs with
      | cons c r => exact absurd he (by rw [e0]; simp [hdS, one])
      | nil =>
        have e1 : line = tot := by rw [← hline]; show line = line + nls []; simp [nls]
        subst e1
        rw [show line + isNl [] = line from Int.add_zero _] at N'
        cases hsv'
        have hDL : D ≠ L := N1.2.1
        have hDg : g.get? D = none := N1.2.2
        have hne : ∀ b x, g.get? b = some x → b ≠ D := fun b x e q => by rw [q, hDg] at e; cases e
        have F9 : Fr g L h9 m := ⟨F'.ns.extBut hs9 hDL.symm, fun b x e => hs9 b x (hne b x e) (F'.keep b x e), F'.above⟩
        refine hend rfl [] k' tl' h9 tk' m F9 (fun p hp => ?_) .nil hJ
        refine pack fun G9 hG9 => ?_
        obtain ⟨c1, c2, c3, c4, c5, c6, c7, c8, c9⟩ := hB
        refine hG9 ?_
        clear hG9
        have hpD : p.1 ≠ D := by
          simp only [Lx.led, Lx.obs, Lx.rd, List.cons_append, List.nil_append, List.mem_cons] at hp
          rcases hp with rfl | rfl | rfl | rfl | rfl | rfl | rfl | rfl | rfl | hp
          all_goals first | exact Ne.symm ‹_› | exact hrD p hp
        have hpN : p ∈ X.obs w line tl' yl ++ X.rd [] k' ++ ((X.pb, listOf [].toArray kp) :: (D, ciObj (.ref mo) (.str (PySem.Str.ofString "") te)) :: (mo, methodObj (.ref 69) (.ref X.x)) :: rest) := by
          clear hpD
          revert p
          simp only [Lx.led, Lx.obs, Lx.rd, List.cons_append, List.nil_append]
          (((try simp only [List.cons_append, List.nil_append]); refine (?_ : HintTo _ _ _ _) (by repeat' (with_reducible (first | exact pkA | apply pkB | apply pkC | exact pkD | apply pkE | exact pkF | apply pkG))); exact fun _ => sub_pick rfl))
        refine pack fun G9 hG9 => ?_
        obtain ⟨z1, z2, z3⟩ := N' p hpN
        refine hG9 ?_
        clear hG9
        exact ⟨hs9 _ _ hpD z1, z2, z3⟩
end
end
section
noncomputable def ListStep (g : Heap) (L D : Addr) (o : Obj) (s : Shared) (J : Nat → (PySem.Str → Option Value) → List (Addr × Obj) → Prop) (i : Nat) (Q : Flow → Shared → Prop) (f : Flow) (s₃ : Shared) : Prop := match f with
  | .next | .cont => ∃ h tk m nl, s₃ = { s with heap := h, toks := tk } ∧ Fr g L h m ∧ News g L h ((D, o) :: nl) ∧ J (i + 1) m nl ∧ ∀ p ∈ nl, p.1 ≠ D
  | .brk => Q .next s₃
  | .ret v => Q (.ret v) s₃
section
variable {g : Heap} {L D : Addr} {o : Obj} {s : Shared} {J : Nat → (PySem.Str → Option Value) → List (Addr × Obj) → Prop} {i : Nat} {Q : Flow → Shared → Prop} {h : Heap} {tk : Nat} {m : PySem.Str → Option Value}
theorem ListStep.next (nl : List (Addr × Obj)) (F : Fr g L h m) (N : News g L h ((D, o) :: nl)) (hJ : J (i + 1) m nl) (hD : ∀ p ∈ nl, p.1 ≠ D) : ListStep g L D o s J i Q .next { s with heap := h, toks := tk } := ⟨h, tk, m, nl, rfl, F, N, hJ, hD⟩
end
theorem list_loop {prog : Program} {w : World} {A : Around} {env : Env} {x : PySem.Str} {body : List Stmt} {Q : Flow → Shared → Prop} {g : Heap} {L l : Addr} {s : Shared} {m₀ : PySem.Str → Option Value} {news : List (Addr × Obj)} {vs : List Value} {k : Nat}
    (J : Nat → (PySem.Str → Option Value) → List (Addr × Obj) → Prop) (hh : A.handled = none) (F : Fr g L s.heap m₀) (N : News g L s.heap news) (h0 : J 0 m₀ news) (hJl : ∀ i m nl, J i m nl → (l, listOf vs.toArray k) ∈ nl)
    (turn : ∀ i v D o h tk m nl, vs[i]? = some v → J i m nl → (∀ p ∈ news, p.1 < D) → (∀ p ∈ nl, p.1 ≠ D) → Fr g L h m → News g L h ((D, o) :: nl) →
      wpAny (model prog w) A (storeName env x v) (fun _ s₂ => wpAny (model prog w) A (execs body env) (ListStep g L D o s J i Q) noE s₂) noE { s with heap := h, toks := tk })
    (done : ∀ h tk m nl, J vs.length m nl → Fr g L h m → News g L h nl → Q .next { s with heap := h, toks := tk }) :
    wpAny (model prog w) A (pyIter (.ref l)) (ItLoop prog w A env x body Q) noE s := by
  have hl : s.heap.IsList l vs.toArray := News.isList N (hJl _ _ _ h0)
  refine wpAny_pyIter_list hl ?_
  refine ⟨fun n s' => ∃ i o h tk m nl, n + i = vs.length ∧ s' = { s with heap := h, toks := tk } ∧ Fr g L h m ∧ News g L h ((s.heap.objs.size, o) :: nl) ∧ (o.cls = .type "list_iterator" ∧ o.data = .fields #[.ref l, .int i 0]) ∧ J i m nl ∧ ∀ p ∈ nl, p.1 ≠ s.heap.objs.size,
    vs.length, ⟨0, _, _, _, m₀, news, rfl, rfl, F.push _, News.push F N _, ⟨rfl, rfl⟩, h0, fun p hp => Nat.ne_of_lt (Heap.lt_size (N p hp).1)⟩, ?_⟩
  intro n s' hPk1
  refine pack fun G9 hG9 => ?_
  obtain ⟨i, o, h, tk, m, nl, hn, rfl, F', N', ho, hJ, hne⟩ := hPk1
  refine hG9 ?_
  clear hG9
  have hl' : h.IsList l vs.toArray := News.isList (fun p hp => N' p (.tail _ hp)) (hJl _ _ _ hJ)
  have hit : h.IsListIter s.heap.objs.size l i := ⟨_, (N' _ (.head _)).1, ho.1, ho.2⟩
  have z := N' _ (.head _)
  cases hx : vs[i]? with
  | none =>
    refine wpAny_pyNext_list_end hh hit hl' (by simpa using hx) fun h' he => ?_
    have hi : i = vs.length := by
      have := List.getElem?_eq_none_iff.mp hx
      omega
    subst hi
    have hgd := z.2.2
    refine done h' tk m nl hJ ⟨F'.ns.extBut he z.2.1.symm, fun b x e => he b x (fun q => by rw [q, hgd] at e; cases e) (F'.keep b x e), F'.above⟩ fun p hp => ?_
    refine pack fun G9 hG9 => ?_
    obtain ⟨a, b, c⟩ := N' p (.tail _ hp)
    refine hG9 ?_
    clear hG9
    exact ⟨he _ _ (hne p hp) a, b, c⟩
  | some v =>
    refine wpAny_pyNext_list_item hit hl' (x := v) (by simpa using hx) fun h' hi' hs => ?_
    refine pack fun G9 hG9 => ?_
    obtain ⟨o', ho', hc', hd'⟩ := hi'
    refine hG9 ?_
    clear hG9
    have hlt : i < vs.length := (List.getElem?_eq_some_iff.mp hx).1
    refine wpAny_mono (turn i v _ o' h' tk m nl hx hJ (fun p hp => Heap.lt_size (N p hp).1) hne (F'.change hs z.2.1 z.2.2) (N'.setHead hne hs ho')) (fun _ s₂ h₂ => wpAny_mono h₂ (fun f s₃ h₃ => ?_) fun _ _ e => e) fun _ _ e => e
    have key : (∃ h tk m nl, s₃ = { s with heap := h, toks := tk } ∧ Fr g L h m ∧ News g L h ((s.heap.objs.size, o') :: nl) ∧ J (i + 1) m nl ∧ ∀ p ∈ nl, p.1 ≠ s.heap.objs.size) →
        ∃ m', m' < n ∧ ∃ i o h tk m nl, m' + i = vs.length ∧ s₃ = { s with heap := h, toks := tk } ∧ Fr g L h m ∧ News g L h ((s.heap.objs.size, o) :: nl) ∧ (o.cls = .type "list_iterator" ∧ o.data = .fields #[.ref l, .int i 0]) ∧ J i m nl ∧ ∀ p ∈ nl, p.1 ≠ s.heap.objs.size := by
      intro hPk2
      refine pack fun G9 hG9 => ?_
      obtain ⟨h3, tk3, m3, nl3, e3, F3, N3, J3, D3⟩ := hPk2
      refine hG9 ?_
      clear hG9
      exact ⟨n - 1, by omega, i + 1, o', h3, tk3, m3, nl3, by omega, e3, F3, N3, ⟨hc', by rw [hd']⟩, J3, D3⟩
    cases f with
    | next => exact key h₃
    | cont => exact key h₃
    | brk => exact h₃
    | ret v => exact h₃
end
section
noncomputable def MidStep (g : Heap) (L : Addr) (s : Shared) (J : (PySem.Str → Option Value) → List (Addr × Obj) → Prop) (f : Flow) (s₃ : Shared) : Prop :=
  f = .next ∧ ∃ h tk m nl, s₃ = { s with heap := h, toks := tk } ∧ Fr g L h m ∧ News g L h nl ∧ J m nl
theorem MidStep.intro {g : Heap} {L : Addr} {s : Shared} {J : (PySem.Str → Option Value) → List (Addr × Obj) → Prop} {h : Heap} {tk : Nat} {m : PySem.Str → Option Value} (nl : List (Addr × Obj))
    (F : Fr g L h m) (N : News g L h nl) (hJ : J m nl) : MidStep g L s J .next { s with heap := h, toks := tk } := ⟨rfl, h, tk, m, nl, rfl, F, N, hJ⟩
section
variable {prog : Program} {w : World} {A : Around} {env : Env} {s : Shared} {g : Heap} {L : Addr} {Q : Flow → Shared → Prop} {E : Value → Shared → Prop}
theorem execs_wp {M : Model} {Γ : PySem.Ctx} {b : List Stmt} {R : Flow → Pos → Shared → Prop} {X : Value → Pos → Shared → Prop} : ∀ (a : List Stmt) (p : Pos) (s : Shared),
    Sem.wp M Γ (execs a env) (fun f p' s' => match f with | .next => Sem.wp M Γ (execs b env) R X p' s' | f => R f p' s') X p s → Sem.wp M Γ (execs (a ++ b) env) R X p s
  | [], p, s, h => h
  | st :: a, p, s, h => by
    rw [List.cons_append, execs_cons, Sem.wp_bind']
    rw [execs_cons, Sem.wp_bind'] at h
    refine Sem.wp_mono M Γ _ (fun f p' s' h' => ?_) (fun _ _ _ h' => h') _ _ h
    cases f with
    | next => exact execs_wp a p' s' h'
    | brk => exact h'
    | cont => exact h'
    | ret v => exact h'
theorem execs_split {a b : List Stmt} (h : wpAny (model prog w) A (execs a env) (fun f s' => match f with | .next => wpAny (model prog w) A (execs b env) Q E s' | f => Q f s') E s) : wpAny (model prog w) A (execs (a ++ b) env) Q E s := fun Γ p hΓ => by
  refine execs_wp a p s (Sem.wp_mono _ Γ _ (fun f p' s' h' => ?_) (fun _ _ _ h' => h') _ _ (h Γ p hΓ))
  cases f with
  | next => exact h' Γ p' hΓ
  | brk => exact h'
  | cont => exact h'
  | ret v => exact h'
theorem execs_mid {b : List Stmt} (n : Nat) (J : (PySem.Str → Option Value) → List (Addr × Obj) → Prop) (h1 : wpAny (model prog w) A (execs (b.take n) env) (MidStep g L s J) noE s)
    (h2 : ∀ h tk m nl, J m nl → Fr g L h m → News g L h nl → wpAny (model prog w) A (execs (b.drop n) env) Q noE { s with heap := h, toks := tk }) : wpAny (model prog w) A (execs b env) Q noE s := by
  rw [← List.take_append_drop n b]
  refine execs_split (wpAny_mono h1 (fun f s' hf => ?_) fun _ _ e => e)
  refine pack fun G9 hG9 => ?_
  obtain ⟨rfl, h, tk, m, nl, rfl, F, N, hJ⟩ := hf
  refine hG9 ?_
  clear hG9
  exact h2 h tk m nl hJ F N
end
theorem range_loop {prog : Program} {w : World} {A : Around} {env : Env} {x : PySem.Str} {body : List Stmt} {Q : Flow → Shared → Prop} {g : Heap} {L r : Addr} {s : Shared} {a b : Int} {t₁ t₂ t₃ : Tok} {m₀ : PySem.Str → Option Value} {news : List (Addr × Obj)} (n : Nat)
    (J : Nat → (PySem.Str → Option Value) → List (Addr × Obj) → Prop) (hh : A.handled = none) (hr : IsRange s.heap r a b 1 t₁ t₂ t₃) (hsm : Builtin.Range.small a b 1 = true) (hn : Builtin.Range.rangeSize a b 1 = (n : Int)) (F : Fr g L s.heap m₀) (N : News g L s.heap news) (h0 : J 0 m₀ news)
    (turn : ∀ i t D o h tk m nl, i < n → J i m nl → (∀ p ∈ news, p.1 < D) → (∀ p ∈ nl, p.1 ≠ D) → Fr g L h m → News g L h ((D, o) :: nl) →
      wpAny (model prog w) A (storeName env x (.int (a + (i : Int)) t)) (fun _ s₂ => wpAny (model prog w) A (execs body env) (ListStep g L D o s J i Q) noE s₂) noE { s with heap := h, toks := tk })
    (done : ∀ h tk m nl, J n m nl → Fr g L h m → News g L h nl → Q .next { s with heap := h, toks := tk }) :
    wpAny (model prog w) A (pyIter (.ref r)) (ItLoop prog w A env x body Q) noE s := by
  refine wpAny_pyIter_range hr hsm ?_
  rw [hn]
  refine ⟨fun k s' => ∃ (i : Nat) (o : Obj) (h : Heap) (tk : Nat) (m : PySem.Str → Option Value) (nl : List (Addr × Obj)), k + i = n ∧ s' = { s with heap := h, toks := tk } ∧ Fr g L h m ∧ News g L h ((s.heap.objs.size, o) :: nl) ∧ IsRangeIter h s.heap.objs.size (a + (i : Int)) ((n : Int) - (i : Int)) 1 ∧ J i m nl ∧ ∀ p ∈ nl, p.1 ≠ s.heap.objs.size,
    n, ⟨0, _, _, _, m₀, news, rfl, rfl, F.push _, News.push F N _, by simpa using Heap.get?_push_size _ rfl, h0, fun p hp => Nat.ne_of_lt (Heap.lt_size (N p hp).1)⟩, ?_⟩
  intro k s' hPk1
  refine pack fun G9 hG9 => ?_
  obtain ⟨i, o, h, tk, m, nl, hk, rfl, F', N', hit, hJ, hne⟩ := hPk1
  refine hG9 ?_
  clear hG9
  have z := N' _ (.head _)
  by_cases hi : i < n
  · refine wpAny_pyNext_range_item hit (by omega) fun h' hit' hs => ?_
    obtain ⟨o', hit', ho'⟩ : ∃ o', h'.get? s.heap.objs.size = some o' ∧ ∀ h3 : Heap, h3.get? s.heap.objs.size = some o' → IsRangeIter h3 s.heap.objs.size (a + (i : Int) + 1) ((n : Int) - (i : Int) - 1) 1 := ⟨_, hit', fun _ e => e⟩
    refine wpAny_mono (turn i _ _ o' h' _ m nl hi hJ (fun p hp => Heap.lt_size (N p hp).1) hne (F'.change hs z.2.1 z.2.2) (N'.setHead hne hs hit')) (fun _ s₂ h₂ => wpAny_mono h₂ (fun f s₃ h₃ => ?_) fun _ _ e => e) fun _ _ e => e
    have key : (∃ h tk m nl, s₃ = { s with heap := h, toks := tk } ∧ Fr g L h m ∧ News g L h ((s.heap.objs.size, o') :: nl) ∧ J (i + 1) m nl ∧ ∀ p ∈ nl, p.1 ≠ s.heap.objs.size) →
        ∃ m', m' < k ∧ ∃ (i : Nat) (o : Obj) (h : Heap) (tk : Nat) (m : PySem.Str → Option Value) (nl : List (Addr × Obj)), m' + i = n ∧ s₃ = { s with heap := h, toks := tk } ∧ Fr g L h m ∧ News g L h ((s.heap.objs.size, o) :: nl) ∧ IsRangeIter h s.heap.objs.size (a + (i : Int)) ((n : Int) - (i : Int)) 1 ∧ J i m nl ∧ ∀ p ∈ nl, p.1 ≠ s.heap.objs.size := by
      intro hPk2
      refine pack fun G9 hG9 => ?_
      obtain ⟨h3, tk3, m3, nl3, e3, F3, N3, J3, D3⟩ := hPk2
      refine hG9 ?_
      clear hG9
      refine ⟨k - 1, by omega, i + 1, _, h3, tk3, m3, nl3, by omega, e3, F3, N3, ?_, J3, D3⟩
      have := ho' _ (N3 _ (.head _)).1
      rw [show a + ((i + 1 : Nat) : Int) = a + (i : Int) + 1 by omega, show (n : Int) - ((i + 1 : Nat) : Int) = (n : Int) - (i : Int) - 1 by omega]
      exact this
    cases f with
    | next => exact key h₃
    | cont => exact key h₃
    | brk => exact h₃
    | ret v => exact h₃
  · obtain rfl : i = n := by omega
    refine wpAny_pyNext_range_end hh hit (by omega) fun h' he => ?_
    have hgd := z.2.2
    refine done h' tk m nl hJ ⟨F'.ns.extBut he z.2.1.symm, fun b x e => he b x (fun q => by rw [q, hgd] at e; cases e) (F'.keep b x e), F'.above⟩ fun p hp => ?_
    refine pack fun G9 hG9 => ?_
    obtain ⟨a, b, c⟩ := N' p (.tail _ hp)
    refine hG9 ?_
    clear hG9
    exact ⟨he _ _ (hne p hp) a, b, c⟩
end
section
open PySem PySem.W PySem.Calls PyProof.Rows PySem.Spec PyProof.Rows.LCg PyProof.Rows.LCt
set_option maxHeartbeats 2000000
noncomputable def SrcTS (prog : Program) (w : World) (A : Around) (h₀ : Heap) (L : Addr) (m : PySem.Str → Option Value) (env : Env) (ct elt : Expr) (x : PySem.Str) (scope : Scope) (cl : List (PySem.Str × Addr)) (Q : Value → Shared → Prop) (xv : Value) (s₁ : Shared) : Prop :=
  ∃ z t news, xv = .str z t ∧ A.handled = none ∧ Fr h₀ L s₁.heap m ∧ News h₀ L s₁.heap news ∧ z.cps.size ≤ sizeLine ∧
    ∀ s₂ : Shared, (∃ h, s₂ = { s₁ with heap := h }) → CompRestT prog w A h₀ L m env ct elt x scope cl s₂ (fun _ => True) (SignAt z) (FinE h₀ L m s₂ Q) z.cps.size 0 [] news
noncomputable def SrcS (prog : Program) (w : World) (A : Around) (h₀ : Heap) (L : Addr) (m : PySem.Str → Option Value) (env : Env) (elt : Expr) (x : PySem.Str) (scope : Scope) (cl : List (PySem.Str × Addr)) (Q : Value → Shared → Prop) (xv : Value) (s₁ : Shared) : Prop :=
  ∃ z t news, xv = .str z t ∧ A.handled = none ∧ Fr h₀ L s₁.heap m ∧ News h₀ L s₁.heap news ∧ z.cps.size ≤ sizeLine ∧
    ∀ s₂ : Shared, (∃ h, s₂ = { s₁ with heap := h }) → CompRest prog w A h₀ L m env elt x scope cl s₂ (fun _ => True) (SignAt z) (FinE h₀ L m s₂ Q) z.cps.size 0 [] news
section
variable {prog : Program} {w : World} {A : Around} {E : Value → Shared → Prop} {s : Shared} {h₀ : Heap} {L : Addr} {m : PySem.Str → Option Value} {env : Env}
theorem comp_rest {elt : Expr} {x : PySem.Str} {scope : Scope} {cl : List (PySem.Str × Addr)} {S : List (Addr × Obj) → Prop} {P : Nat → Value → Prop} {Fin : List Value → List (Addr × Obj) → Prop} (n : Nat)
    (J : Nat → List Value → List (Addr × Obj) → Prop) (hfin : ∀ ys nl, J n ys nl → Fin ys nl)
    (turn : ∀ i ys nl v I oI C oC D m₂ h tk (E' : Value → Shared → Prop), i < n → J i ys nl → P i v → NsObj oC m₂ → m₂ x = some v → Fr h₀ L h m → News h₀ L h ((I, oI) :: (C, oC) :: (D, lst ys) :: nl) → Off3 I C D nl → ((@Ne Nat I C) ∧ (@Ne Nat I D) ∧ (@Ne Nat C D)) →
      wpAny (model prog w) A (eval elt (compEnvC scope cl C env)) (CompEnd h₀ L m { s with heap := h, toks := tk } I oI C oC D (lst ys) S (fun y nl' => J (i + 1) (ys ++ [y]) nl')) E' { s with heap := h, toks := tk }) :
    ∀ k i ys nl, k + i = n → J i ys nl → CompRest prog w A h₀ L m env elt x scope cl s S P Fin k i ys nl
  | 0, i, ys, nl, hk, hj => hfin ys nl (by rw [← hk, Nat.zero_add]; exact hj)
  | k + 1, i, ys, nl, hk, hj => fun v I oI C oC D m₂ h tk E' hP ho hm F N hoff hne => by
    refine wpAny_mono (turn i ys nl v I oI C oC D m₂ h tk E' (by omega) hj hP ho hm F N hoff hne) (fun y s₂ hc => ?_) fun _ _ e => e
    refine pack fun G9 hG9 => ?_
    obtain ⟨h', tk', nl', e, F', N', o', hS, hj'⟩ := hc
    refine hG9 ?_
    clear hG9
    exact ⟨h', tk', nl', e, F', N', o', hS, comp_rest n J hfin turn k (i + 1) _ _ (by omega) hj'⟩
theorem comp_restT {ct elt : Expr} {x : PySem.Str} {scope : Scope} {cl : List (PySem.Str × Addr)} {S : List (Addr × Obj) → Prop} {P : Nat → Value → Prop} {Fin : List Value → List (Addr × Obj) → Prop} (n : Nat)
    (J : Nat → List Value → List (Addr × Obj) → Prop) (hfin : ∀ ys nl, J n ys nl → Fin ys nl)
    (turn : ∀ i ys nl v I oI C oC D m₂ h tk (E' : Value → Shared → Prop), i < n → J i ys nl → P i v → NsObj oC m₂ → m₂ x = some v → Fr h₀ L h m → News h₀ L h ((I, oI) :: (C, oC) :: (D, lst ys) :: nl) → Off3 I C D nl → ((@Ne Nat I C) ∧ (@Ne Nat I D) ∧ (@Ne Nat C D)) →
      wpAny (model prog w) A (isTrue ct (compEnvC scope cl C env) (eval ct (compEnvC scope cl C env))) (fun ok s' => if ok = true then
        wpAny (model prog w) A (eval elt (compEnvC scope cl C env)) (CompEnd h₀ L m { s with heap := h, toks := tk } I oI C oC D (lst ys) S (fun y nl' => J (i + 1) (ys ++ [y]) nl')) E' s'
        else CompEnd h₀ L m { s with heap := h, toks := tk } I oI C oC D (lst ys) S (fun _ nl' => J (i + 1) ys nl') Value.none s') E' { s with heap := h, toks := tk }) :
    ∀ k i ys nl, k + i = n → J i ys nl → CompRestT prog w A h₀ L m env ct elt x scope cl s S P Fin k i ys nl
  | 0, i, ys, nl, hk, hj => hfin ys nl (by rw [← hk, Nat.zero_add]; exact hj)
  | k + 1, i, ys, nl, hk, hj => fun v I oI C oC D m₂ h tk E' hP ho hm F N hoff hne => by
    refine wpAny_mono (turn i ys nl v I oI C oC D m₂ h tk E' (by omega) hj hP ho hm F N hoff hne) (fun ok s₂ hc => ?_) fun _ _ e => e
    cases ok with
    | true =>
      simp only [if_true] at hc ⊢
      refine wpAny_mono hc (fun y s₃ hc => ?_) fun _ _ e => e
      refine pack fun G9 hG9 => ?_
      obtain ⟨h', tk', nl', e, F', N', o', hS, hj'⟩ := hc
      refine hG9 ?_
      clear hG9
      exact ⟨h', tk', nl', e, F', N', o', hS, comp_restT n J hfin turn k (i + 1) _ _ (by omega) hj'⟩
    | false =>
      simp only [Bool.false_eq_true, if_false] at hc ⊢
      refine pack fun G9 hG9 => ?_
      obtain ⟨h', tk', nl', e, F', N', o', hS, hj'⟩ := hc
      refine hG9 ?_
      clear hG9
      exact ⟨h', tk', nl', e, F', N', o', hS, comp_restT n J hfin turn k (i + 1) _ _ (by omega) hj'⟩
theorem frame_st {I : Addr} {n : Nat} {P : Nat → Value → Prop} {St : Nat → Heap → Prop} (W : Walks prog w A I [I] [I] n P St) : ∀ i (h h' : Heap) (o : Obj) (nw : List (Addr × Obj)), St i h → h.get? I = some o → h'.get? I = some o → (∀ b o, h₀.get? b = some o → h'.get? b = some o) → News h₀ L h' nw → True → St i h' :=
  fun i h h' o nw st e e' _ _ _ => W.frame i h h' st fun b hb o' e₂ => by
    rw [List.mem_singleton.mp hb] at e₂ ⊢
    rw [e] at e₂
    cases e₂
    exact e'
theorem striter_io {I : Addr} {c : String} {x : PySem.Str} {t : Tok} : ∀ i (h : Heap), h.IsStrIter I c x t i → ∃ o, h.get? I = some o := fun _ _ st => let ⟨o, e, _⟩ := st; ⟨o, e⟩
theorem ListComp_TS {ct elt iter : Expr} {x : PySem.Str} {px : Pos} {scope : Scope} {cl : List (PySem.Str × Addr)} {pos : Pos} {Q : Value → Shared → Prop}
    (hclos : closureFor scope env = pure cl) (hcell : ∀ y ∈ scope.names, y.2 ≠ .cell) (hkind : scope.kind = .function)
    (hnames : ∀ y ∈ scope.names, y.2 = .local → scope.names.lookup y.1 = some .local) (hx : scope.names.lookup x = some .local)
    (h : wpAny (model prog w) A (eval iter env) (SrcTS prog w A h₀ L m env ct elt x scope cl Q) E s)
    (hs : ∀ x, foldedSetIterable iter env x = pure x := by intro _; rfl) :
    wpAny (model prog w) A (eval (.ListComp elt [⟨.Name x px, iter, [ct], 0⟩] scope pos) env) Q E s := by
  rw [eval_ListComp]
  refine wpAny_comprehension_free (use := none) rfl hs hclos hkind hnames (wpAny_mono h (fun xv s₁ h₁ => ?_) fun _ _ e => e)
  refine pack fun G9 hG9 => ?_
  obtain ⟨z, t, news, rfl, hh, F, N, hsz, R⟩ := h₁
  refine hG9 ?_
  clear hG9
  have fin : ∀ (o : Obj) (St : Nat → Heap → Prop), Walks prog w A s₁.heap.objs.size [s₁.heap.objs.size] [s₁.heap.objs.size] z.cps.size (SignAt z) St → (∀ i h, St i h → ∃ o, h.get? s₁.heap.objs.size = some o) → St 0 (s₁.heap.push o) →
      wpAny (model prog w) A (newList []) (fun acc s₃ => wpAny (model prog w) A (newFunctionEnv scope env.globals cl [] env.qual none .none (some env)) (fun cenv s₄ =>
        codeAny (model prog w) A (.compStart (.ListComp elt [⟨.Name x px, iter, [ct], 0⟩] scope pos) 0 (.ref s₁.heap.objs.size) acc { cenv with scope := relabel scope env }) (compPost (model prog w) A E none Q acc cenv.locals) s₄) E s₃) E { s₁ with heap := s₁.heap.push o } := by
    intro o St W hio hst
    refine block_T W hsz hio (frame_st W) hcell hkind hx hst (fun b hb => ?_)
      (F.keeps fun _ _ e => Heap.get?_push_of_some _ e) (N.grown fun _ _ e => Heap.get?_push_of_some _ e) (Nat.ne_of_lt F.ns.lt) (next_is_new F) (fun p hp => Nat.ne_of_lt (Heap.lt_size (N p hp).1)) trivial (R _ ⟨_, rfl⟩) ?_
    · rw [List.mem_singleton.mp hb]
      show s₁.heap.objs.size < (s₁.heap.push _).objs.size
      rw [Heap.size_push]; exact Nat.lt_succ_self _
    · intro D C h tk m' ys news' F' N' o1 hn hC₀ hD₀ hCL hDL hCD offC fin
      refine ⟨m', hn, fun h'' hs'' => fin D h'' tk (F'.change hs'' hCL hC₀) (fun p hp => ?_) o1⟩
      refine ⟨hs''.extBut _ _ ?_ (N' p hp).1, (N' p hp).2⟩
      rcases List.mem_cons.mp hp with rfl | hp
      · exact Ne.symm hCD
      · exact offC p hp
  cases ha : z.cps.all (· < 128)
  · exact wpAny_pyIter_wide ha (fin _ _ (Walks.strWide hh _ z t) striter_io ⟨_, Heap.get?_push_size _ rfl, rfl, rfl⟩)
  · exact wpAny_pyIter_ascii ha (fin _ _ (Walks.strAscii hh _ z t) striter_io ⟨_, Heap.get?_push_size _ rfl, rfl, rfl⟩)
theorem ListComp_S {elt iter : Expr} {x : PySem.Str} {px : Pos} {scope : Scope} {cl : List (PySem.Str × Addr)} {pos : Pos} {Q : Value → Shared → Prop}
    (hclos : closureFor scope env = pure cl) (hcell : ∀ y ∈ scope.names, y.2 ≠ .cell) (hkind : scope.kind = .function)
    (hnames : ∀ y ∈ scope.names, y.2 = .local → scope.names.lookup y.1 = some .local) (hx : scope.names.lookup x = some .local)
    (h : wpAny (model prog w) A (eval iter env) (SrcS prog w A h₀ L m env elt x scope cl Q) E s)
    (hs : ∀ x, foldedSetIterable iter env x = pure x := by intro _; rfl) :
    wpAny (model prog w) A (eval (.ListComp elt [⟨.Name x px, iter, [], 0⟩] scope pos) env) Q E s := by
  rw [eval_ListComp]
  refine wpAny_comprehension_free (use := none) rfl hs hclos hkind hnames (wpAny_mono h (fun xv s₁ h₁ => ?_) fun _ _ e => e)
  refine pack fun G9 hG9 => ?_
  obtain ⟨z, t, news, rfl, hh, F, N, hsz, R⟩ := h₁
  refine hG9 ?_
  clear hG9
  have fin : ∀ (o : Obj) (St : Nat → Heap → Prop), Walks prog w A s₁.heap.objs.size [s₁.heap.objs.size] [s₁.heap.objs.size] z.cps.size (SignAt z) St → (∀ i h, St i h → ∃ o, h.get? s₁.heap.objs.size = some o) → St 0 (s₁.heap.push o) →
      wpAny (model prog w) A (newList []) (fun acc s₃ => wpAny (model prog w) A (newFunctionEnv scope env.globals cl [] env.qual none .none (some env)) (fun cenv s₄ =>
        codeAny (model prog w) A (.compStart (.ListComp elt [⟨.Name x px, iter, [], 0⟩] scope pos) 0 (.ref s₁.heap.objs.size) acc { cenv with scope := relabel scope env }) (compPost (model prog w) A E none Q acc cenv.locals) s₄) E s₃) E { s₁ with heap := s₁.heap.push o } := by
    intro o St W hio hst
    refine block_U W hsz hio (frame_st W) hcell hkind hx hst (fun b hb => ?_)
      (F.keeps fun _ _ e => Heap.get?_push_of_some _ e) (N.grown fun _ _ e => Heap.get?_push_of_some _ e) (Nat.ne_of_lt F.ns.lt) (next_is_new F) (fun p hp => Nat.ne_of_lt (Heap.lt_size (N p hp).1)) trivial (R _ ⟨_, rfl⟩) ?_
    · rw [List.mem_singleton.mp hb]
      show s₁.heap.objs.size < (s₁.heap.push _).objs.size
      rw [Heap.size_push]; exact Nat.lt_succ_self _
    · intro D C h tk m' ys news' F' N' o1 hn hC₀ hD₀ hCL hDL hCD offC fin
      refine ⟨m', hn, fun h'' hs'' => fin D h'' tk (F'.change hs'' hCL hC₀) (fun p hp => ?_) o1⟩
      refine ⟨hs''.extBut _ _ ?_ (N' p hp).1, (N' p hp).2⟩
      rcases List.mem_cons.mp hp with rfl | hp
      · exact Ne.symm hCD
      · exact offC p hp
  cases ha : z.cps.all (· < 128)
  · exact wpAny_pyIter_wide ha (fin _ _ (Walks.strWide hh _ z t) striter_io ⟨_, Heap.get?_push_size _ rfl, rfl, rfl⟩)
  · exact wpAny_pyIter_ascii ha (fin _ _ (Walks.strAscii hh _ z t) striter_io ⟨_, Heap.get?_push_size _ rfl, rfl, rfl⟩)
end
end
section
open PySem PySem.W PySem.Calls PyProof.Rows PySem.Spec PyProof.Rows.LCg
set_option maxHeartbeats 2000000
noncomputable abbrev testsOf (ifs : List Expr) (env : Env) : Sem Bool := forIn ifs true fun c r => if r = true then do let ok ← isTrue c env (eval c env); pure (ForInStep.yield ok) else pure (ForInStep.yield r)
noncomputable def CIn (prog : Program) (w : World) (A : Around) (elt : Expr) (gens : List Comprehension) (scope : Scope) (pos : Pos) (d : Nat) (acc : Value) (env : Env) (Q : Shared → Prop) (s : Shared) : Prop :=
  match gens[d + 1]? with
  | none => wpAny (model prog w) A (eval elt env) (fun x s₄ => wpAny (model prog w) A (call (.builtin "list.append") [acc, x]) (fun _ s₅ => Q s₅) noE s₄) noE s
  | some g' => (∀ x, foldedSetIterable g'.iter env x = pure x) ∧ wpAny (model prog w) A (eval g'.iter env) (fun xv s₄ => wpAny (model prog w) A (pyIter xv) (fun it' s₅ =>
      codeAny (model prog w) A (.compStart (.ListComp elt gens scope pos) (d + 1) it' acc env) (fun r s' => match r with | .ok _ => Q s' | .error _ => False) s₅) noE s₄) noE s
section
variable {prog : Program} {w : World} {A : Around} {R : Result → Shared → Prop} {s : Shared}
theorem compLoop_any {elt : Expr} {gens : List Comprehension} {scope : Scope} {pos : Pos} {d : Nat} {target iter : Expr} {ifs : List Expr} {it acc : Value} {env : Env} (hg : gens[d]? = some ⟨target, iter, ifs, 0⟩)
    (hin : ∀ g', gens[d + 1]? = some g' → g'.is_async = 0) (I : Nat → Shared → Prop)
    (turn : ∀ n s, I n s → wpAny (model prog w) A (pyNext it) (fun r s₁ => match r with
      | none => R (.ok .next) s₁
      | some v => wpAny (model prog w) A (letOwnedTupleGo target it v) (fun _ s₁' => wpAny (model prog w) A (assign target env v) (fun _ s₂ => wpAny (model prog w) A (testsOf ifs env) (fun ok s₃ =>
          if ok = true then CIn prog w A elt gens scope pos d acc env (fun s₄ => ∃ m, m < n ∧ I m s₄) s₃ else ∃ m, m < n ∧ I m s₃) noE s₂) noE s₁') noE s₁) noE s)
    (n : Nat) (h : I n s) : codeAny (model prog w) A (.compLoop (.ListComp elt gens scope pos) d it acc env) R s := by
  refine codeAny_loop rfl I (fun n s hI => ?_) n h
  show wpAny _ A ((compTurn (.ListComp elt gens scope pos) d it acc env).onRaise (fun x => do noteFrame x env; theTreesLotGoes x)) _ _ s
  refine wpAny_noted (wpAny_mono (E := noE) ?_ (fun _ _ q => q) (fun _ _ e => e.elim))
  unfold compTurn
  simp only [hg]
  refine wpAny_bind (wpAny_standAt (wpAny_bind (wpAny_mono (turn n s hI) (fun r s₁ h₁ => ?_) fun _ _ h' => h')))
  cases r with
  | none => exact wpAny_pure h₁
  | some v =>
    refine wpAny_bind (wpAny_mono h₁ (fun _ s₁' h₁' => ?_) fun _ _ h' => h')
    refine wpAny_bind (wpAny_mono h₁' (fun _ s₂ h₂ => wpAny_bind (wpAny_mono h₂ (fun ok s₃ h₃ => ?_) fun _ _ h' => h')) fun _ _ h' => h')
    cases ok with
    | false => exact wpAny_pure ⟨rfl, h₃⟩
    | true =>
      simp only [if_true] at h₃ ⊢
      unfold CIn at h₃
      cases hg' : gens[d + 1]? with
      | none =>
        simp only [hg'] at h₃ ⊢
        exact wpAny_bind (wpAny_bind (wpAny_mono h₃ (fun x s₄ h₄ => wpAny_bind (wpAny_mono h₄ (fun _ s₅ h₅ => wpAny_pure (wpAny_pure ⟨rfl, h₅⟩)) fun _ _ h' => h')) fun _ _ h' => h'))
      | some g' =>
        have ha := hin g' hg'
        simp only [hg', ha] at h₃ ⊢
        obtain ⟨hf, h₃⟩ := h₃
        refine wpAny_bind (wpAny_mono h₃ (fun xv s₄ h₄ => ?_) fun _ _ h' => h')
        refine wpAny_bind (wpAny_standAt ?_)
        show wpAny (model prog w) A (foldedSetIterable g'.iter env xv >>= fun x => _) _ _ _
        rw [hf xv]
        refine wpAny_bind (wpAny_pure ?_)
        refine wpAny_bind (wpAny_holding ?_)
        refine wpAny_mono h₄ (fun it' s₅ h₅ => ?_) fun _ _ h' => h'
        refine wpAny_bind (wpAny_runOwn (h := none) ?_)
        refine codeAny_mono h₅ (fun r s' hr => ?_)
        cases r with
        | ok f => exact wpAny_pure ⟨rfl, hr⟩
        | error e => exact hr.elim
end
end
section
open PySem PySem.W PySem.Calls PyProof.Rows PySem.Spec PyProof.Rows.LCg
set_option maxHeartbeats 2000000
noncomputable def LevEnd (h₀ : Heap) (L : Addr) (m : PySem.Str → Option Value) (s : Shared) (I : Addr) (oI : Obj) (C D : Addr) (J : List Value → (PySem.Str → Option Value) → List (Addr × Obj) → Prop) (s' : Shared) : Prop :=
  ∃ h tk ys m₂ oC nl, s' = { s with heap := h, toks := tk } ∧ Fr h₀ L h m ∧ NsObj oC m₂ ∧ News h₀ L h ((I, oI) :: (C, oC) :: (D, lst ys) :: nl) ∧ Off3 I C D nl ∧ J ys m₂ nl
theorem LevEnd.intro {h₀ : Heap} {L : Addr} {m : PySem.Str → Option Value} {s : Shared} {I : Addr} {oI : Obj} {C D : Addr} {J : List Value → (PySem.Str → Option Value) → List (Addr × Obj) → Prop} {h : Heap} {tk : Nat} {ys : List Value} {m₂ : PySem.Str → Option Value} {oC : Obj} {all : List (Addr × Obj)}
    (F : Fr h₀ L h m) (hC : NsObj oC m₂) (N : News h₀ L h all) (nl : List (Addr × Obj)) (sub : ∀ p ∈ (I, oI) :: (C, oC) :: (D, lst ys) :: nl, p ∈ all) (off : Off3 I C D nl) (hJ : J ys m₂ nl) : LevEnd h₀ L m s I oI C D J { s with heap := h, toks := tk } :=
  ⟨h, tk, ys, m₂, oC, nl, rfl, F, hC, fun p hp => N p (sub p hp), off, hJ⟩
section
variable {prog : Program} {w : World} {A : Around} {s : Shared} {h₀ : Heap} {L : Addr} {m : PySem.Str → Option Value}
theorem cin_toks {elt : Expr} {gens : List Comprehension} {scope : Scope} {pos : Pos} {d : Nat} {acc : Value} {env : Env} {Q : Shared → Prop} {n : Nat} (hn : n ≤ s.toks) (h : CIn prog w A elt gens scope pos d acc env Q s) :
    CIn prog w A elt gens scope pos d acc env (fun s' => n ≤ s'.toks ∧ Q s') s := by
  unfold CIn at *
  cases hg : gens[d + 1]? with
  | none =>
    simp only [hg] at h ⊢
    exact wpAny_mono (wpAny_toks_of hn h) (fun x s₄ h₄ => wpAny_mono (wpAny_toks_of h₄.1 h₄.2) (fun _ _ q => q) fun _ _ e => e.2) fun _ _ e => e.2
  | some g' =>
    simp only [hg] at h ⊢
    refine ⟨h.1, wpAny_mono (wpAny_toks_of hn h.2) (fun x s₄ h₄ => wpAny_mono (wpAny_toks_of h₄.1 h₄.2) (fun it s₅ h₅ => codeAny_mono (codeAny_toks_of h₅.1 h₅.2) fun r s' hr => ?_) fun _ _ e => e.2) fun _ _ e => e.2⟩
    cases r with
    | ok f => exact hr
    | error e => exact hr.2
theorem cin_mono {elt : Expr} {gens : List Comprehension} {scope : Scope} {pos : Pos} {d : Nat} {acc : Value} {env : Env} {Q Q' : Shared → Prop} (hq : ∀ s, Q s → Q' s) (h : CIn prog w A elt gens scope pos d acc env Q s) :
    CIn prog w A elt gens scope pos d acc env Q' s := by
  unfold CIn at *
  cases hg : gens[d + 1]? with
  | none =>
    simp only [hg] at h ⊢
    exact wpAny_mono h (fun x s₄ h₄ => wpAny_mono h₄ (fun _ _ q => hq _ q) fun _ _ e => e) fun _ _ e => e
  | some g' =>
    simp only [hg] at h ⊢
    refine ⟨h.1, wpAny_mono h.2 (fun x s₄ h₄ => wpAny_mono h₄ (fun it s₅ h₅ => codeAny_mono h₅ fun r s' hr => ?_) fun _ _ e => e) fun _ _ e => e⟩
    cases r with
    | ok f => exact hq _ hr
    | error e => exact hr
noncomputable def Takes (prog : Program) (w : World) (A : Around) (h₀ : Heap) (L I C : Addr) (target : Expr) (cenv : Env) (P : Nat → Value → Prop) (St : Nat → Heap → Prop) (J : Nat → List Value → (PySem.Str → Option Value) → List (Addr × Obj) → Prop) (Asg : Nat → Value → (PySem.Str → Option Value) → (PySem.Str → Option Value) → Prop) (n : Nat) : Prop :=
  ∀ i v (s : Shared) ys m₂ nl (Q : Unit → Shared → Prop), i < n → P i v → J i ys m₂ nl → News h₀ L s.heap nl → s.heap.Ns C m₂ → St (i + 1) s.heap →
    (∀ h' tk' m₃, Asg i v m₂ m₃ → h'.Ns C m₃ → (∀ b o, b ≠ C → s.heap.get? b = some o → h'.get? b = some o) → Q () { s with heap := h', toks := tk' }) →
    wpAny (model prog w) A (letOwnedTupleGo target (.ref I) v) (fun _ s₁ => wpAny (model prog w) A (assign target cenv v) Q noE s₁) noE s
theorem comp_lev {elt : Expr} {gens : List Comprehension} {scope : Scope} {pos : Pos} {d : Nat} {target iter : Expr} {ifs : List Expr} {cenv : Env} {I C D : Addr} {fp : List Addr} {n : Nat} {P : Nat → Value → Prop} {St : Nat → Heap → Prop} {R : Result → Shared → Prop}
    (hg : gens[d]? = some ⟨target, iter, ifs, 0⟩) (hin : ∀ g', gens[d + 1]? = some g' → g'.is_async = 0)
    (W : Walks prog w A I fp [I] n P St) (hIo : ∀ i h, St i h → ∃ o, h.get? I = some o)
    (J : Nat → List Value → (PySem.Str → Option Value) → List (Addr × Obj) → Prop) (Asg : Nat → Value → (PySem.Str → Option Value) → (PySem.Str → Option Value) → Prop) (n₀ : Nat)
    (hSt : ∀ i h h' o ys m₂ nl, J i ys m₂ nl → St i h → h.get? I = some o → h'.get? I = some o → (∀ b o, h₀.get? b = some o → h'.get? b = some o) → News h₀ L h' nl → St i h')
    (hIC : @Ne Nat I C) (hID : @Ne Nat I D) (hCD : @Ne Nat C D) (hIL : L ≠ I) (hI₀ : h₀.get? I = none) (hCL : C ≠ L) (hC₀ : h₀.get? C = none) (hCf : C ∉ fp)
    (take : Takes prog w A h₀ L I C target cenv P St J Asg n)
    (turn : ∀ i v ys m₂ m₃ nl oI oC h tk, i < n → P i v → J i ys m₂ nl → Asg i v m₂ m₃ → NsObj oC m₃ → n₀ ≤ tk → Fr h₀ L h m → News h₀ L h ((I, oI) :: (C, oC) :: (D, lst ys) :: nl) → Off3 I C D nl → ((@Ne Nat I C) ∧ (@Ne Nat I D) ∧ (@Ne Nat C D)) →
      wpAny (model prog w) A (testsOf ifs cenv) (fun ok s₃ => if ok = true then CIn prog w A elt gens scope pos d (.ref D) cenv (LevEnd h₀ L m s I oI C D (J (i + 1))) s₃ else LevEnd h₀ L m s I oI C D (J (i + 1)) s₃) noE { s with heap := h, toks := tk })
    (done : ∀ h tk ys m₂ oC nl, J n ys m₂ nl → NsObj oC m₂ → n₀ ≤ tk → Fr h₀ L h m → News h₀ L h ((C, oC) :: (D, lst ys) :: nl) → Off3 I C D nl → R (.ok .next) { s with heap := h, toks := tk })
    {h₁ : Heap} {tk₁ : Nat} {ys₁ : List Value} {m₁ : PySem.Str → Option Value} {oC₁ : Obj} {nl₁ : List (Addr × Obj)} (hst : St 0 h₁) (ht : n₀ ≤ tk₁) (F : Fr h₀ L h₁ m) (hC : NsObj oC₁ m₁) (N : News h₀ L h₁ ((C, oC₁) :: (D, lst ys₁) :: nl₁)) (off : Off3 I C D nl₁) (hJ : J 0 ys₁ m₁ nl₁) :
    codeAny (model prog w) A (.compLoop (.ListComp elt gens scope pos) d (.ref I) (.ref D) cenv) R { s with heap := h₁, toks := tk₁ } := by
  have hIf : I ∈ fp := W.sub I (List.mem_singleton.mpr rfl)
  refine compLoop_any hg hin (fun k s' => ∃ h tk i ys m₂ oC nl, s' = { s with heap := h, toks := tk } ∧ k = n + 1 - i ∧ i ≤ n ∧ n₀ ≤ tk ∧ St i h ∧ Fr h₀ L h m ∧ NsObj oC m₂ ∧ News h₀ L h ((C, oC) :: (D, lst ys) :: nl) ∧ Off3 I C D nl ∧ J i ys m₂ nl) ?_ (n + 1)
    ⟨h₁, tk₁, 0, ys₁, m₁, oC₁, nl₁, rfl, rfl, Nat.zero_le _, ht, hst, F, hC, N, off, hJ⟩
  intro k s' hPk1
  refine pack fun G9 hG9 => ?_
  obtain ⟨h, tk, i, ys, m₂, oC, nl, rfl, rfl, hi, htk, hst, F, hC, N, off, hJ⟩ := hPk1
  refine hG9 ?_
  clear hG9
  have off3 := off.mem
  have offI : ∀ p ∈ (C, oC) :: (D, lst ys) :: nl, p.1 ≠ I := fun p hp => by
    rcases List.mem_cons.mp hp with rfl | hp
    · exact Ne.symm hIC
    · rcases List.mem_cons.mp hp with rfl | hp
      · exact Ne.symm hID
      · exact (off3 p hp).1
  by_cases hlt : i < n
  · refine wpAny_mono (E := fun e s' => tk ≤ s'.toks ∧ noE e s') (wpAny_toks_of (n := tk) (Nat.le_refl _) (W.item i _ (fun r s₁ => match r with
      | none => False
      | some v => P i v ∧ St (i + 1) s₁.heap ∧ (∀ b o, b ∉ [I] → h.get? b = some o → s₁.heap.get? b = some o) ∧ ∃ h₂ tk₂, s₁ = { s with heap := h₂, toks := tk₂ }) noE hlt hst fun v h₂ tk₂ hP hst₂ hk₂ => ⟨hP, hst₂, hk₂, h₂, tk₂, rfl⟩)) (fun r s₁ h₁ => ?_) fun _ _ e => e.2
    cases r with
    | none => exact h₁.2.elim
    | some v =>
      refine pack fun G9 hG9 => ?_
      obtain ⟨ht₂, hP, hst₂, hk₂, h₂, tk₂, rfl⟩ := h₁
      refine hG9 ?_
      clear hG9
      have N₂ : News h₀ L h₂ ((C, oC) :: (D, lst ys) :: nl) := news_but N hk₂ offI
      have F₂ : Fr h₀ L h₂ m := fr_but F hk₂ hIL hI₀
      have hn₂ : h₂.Ns C m₂ := hC.ns (N₂ _ (.head _)).1
      have hT := take i v { s with heap := h₂, toks := tk₂ } ys m₂ nl (fun _ s₂ => (∃ h₃ tk₃ m₃, s₂ = { s with heap := h₃, toks := tk₃ } ∧ Asg i v m₂ m₃ ∧ h₃.Ns C m₃ ∧ ∀ b o, b ≠ C → h₂.get? b = some o → h₃.get? b = some o)) hlt hP hJ (fun p hp => N₂ p (.tail _ (.tail _ hp))) hn₂ hst₂ (fun h₃ tk₃ m₃ ha hn₃ hk₃ => ⟨h₃, tk₃, m₃, rfl, ha, hn₃, hk₃⟩)
      refine wpAny_mono (wpAny_toks_of (n := n₀) (Nat.le_trans htk ht₂) hT) (fun _ s₁' h₁' => wpAny_mono (wpAny_toks_of h₁'.1 h₁'.2) (fun _ s₂ h₂' => ?_) fun _ _ e => e.2) fun _ _ e => e.2
      refine pack fun G9 hG9 => ?_
      obtain ⟨ht₃, h₃, tk₃, m₃, rfl, ha, hn₃, hk₃⟩ := h₂'
      obtain ⟨oC₃, heC, hoC⟩ := ns_obj hn₃
      refine hG9 ?_
      clear hG9
      have hst₃ : St (i + 1) h₃ := W.frame _ _ _ hst₂ fun b hb o e => hk₃ b o (fun q => hCf (q ▸ hb)) e
      obtain ⟨oI, heI⟩ := hIo _ _ hst₃
      have F₃ : Fr h₀ L h₃ m := ⟨F₂.ns.at' fun o e => hk₃ L o (Ne.symm hCL) e, fun b o e => hk₃ b o (fun q => by rw [q, hC₀] at e; cases e) (F₂.keep b o e), F₂.above⟩
      have N₃ : News h₀ L h₃ ((I, oI) :: (C, oC₃) :: (D, lst ys) :: nl) := fun p hp => by
        rcases List.mem_cons.mp hp with rfl | hp
        · exact ⟨heI, Ne.symm hIL, hI₀⟩
        · rcases List.mem_cons.mp hp with rfl | hp
          · exact ⟨heC, hCL, hC₀⟩
          · have z := N₂ p (.tail _ hp)
            refine ⟨hk₃ _ _ ?_ z.1, z.2⟩
            rcases List.mem_cons.mp hp with rfl | hp
            · exact Ne.symm hCD
            · exact (off3 p hp).2.1
      have back : ∀ s₄ : Shared, n₀ ≤ s₄.toks → LevEnd h₀ L m s I oI C D (J (i + 1)) s₄ → ∃ m', m' < n + 1 - i ∧ ∃ h tk i ys m₂ oC nl, s₄ = { s with heap := h, toks := tk } ∧ m' = n + 1 - i ∧ i ≤ n ∧ n₀ ≤ tk ∧ St i h ∧ Fr h₀ L h m ∧ NsObj oC m₂ ∧ News h₀ L h ((C, oC) :: (D, lst ys) :: nl) ∧ Off3 I C D nl ∧ J i ys m₂ nl := by
        intro s₄ ht₄ hPk2
        refine pack fun G9 hG9 => ?_
        obtain ⟨h₄, tk₄, ys₄, m₄, oC₄, nl₄, rfl, F₄, hC₄, N₄, off₄, hJ₄⟩ := hPk2
        refine hG9 ?_
        clear hG9
        refine ⟨n + 1 - (i + 1), by omega, h₄, tk₄, i + 1, ys₄, m₄, oC₄, nl₄, rfl, rfl, hlt, ht₄, ?_, F₄, hC₄, fun p hp => N₄ p (.tail _ hp), off₄, hJ₄⟩
        exact hSt (i + 1) h₃ h₄ oI ys₄ m₄ nl₄ hJ₄ hst₃ heI (N₄ _ (.head _)).1 F₄.keep fun p hp => N₄ p (.tail _ (.tail _ (.tail _ hp)))
      refine wpAny_mono (wpAny_toks_of ht₃ (turn i v ys m₂ m₃ nl oI oC₃ h₃ tk₃ hlt hP hJ ha hoC ht₃ F₃ N₃ off ⟨hIC, hID, hCD⟩)) (fun ok s₄ h₄ => ?_) fun _ _ e => e.2
      cases ok with
      | false => simpa using back s₄ h₄.1 (by simpa using h₄.2)
      | true =>
        have h5 := h₄.2
        simp only [if_true] at h5 ⊢
        exact cin_mono (fun s₅ h₅ => back s₅ h₅.1 h₅.2) (cin_toks h₄.1 h5)
  · obtain rfl : i = n := Nat.le_antisymm hi (Nat.not_lt.mp hlt)
    refine wpAny_mono (E := fun e s' => tk ≤ s'.toks ∧ noE e s') (wpAny_toks_of (n := tk) (Nat.le_refl _) (W.done _ (fun r s₁ => r = none ∧ (∀ b o, b ∉ [I] → h.get? b = some o → s₁.heap.get? b = some o) ∧ ∃ h₂ tk₂, s₁ = { s with heap := h₂, toks := tk₂ }) noE hst fun h₂ tk₂ hk₂ => ⟨rfl, hk₂, h₂, tk₂, rfl⟩)) (fun r s₁ h₁ => ?_) fun _ _ e => e.2
    refine pack fun G9 hG9 => ?_
    obtain ⟨ht₂, rfl, hk₂, h₂, tk₂, rfl⟩ := h₁
    refine hG9 ?_
    clear hG9
    exact done h₂ tk₂ ys m₂ oC nl hJ hC (Nat.le_trans htk ht₂) (fr_but F hk₂ hIL hI₀) (news_but N hk₂ offI) off
end
end
section
open PySem PySem.W PySem.Calls PyProof.Rows PySem.Spec PyProof.Rows.LCg
set_option maxHeartbeats 2000000
section
variable {prog : Program} {w : World} {A : Around} {s : Shared} {h₀ : Heap} {L : Addr} {m : PySem.Str → Option Value}
theorem compStart_any {elt : Expr} {gens : List Comprehension} {scope : Scope} {pos : Pos} {d : Nat} {target iter : Expr} {ifs : List Expr} {it acc : Value} {cenv : Env} {R : Result → Shared → Prop} (hg : gens[d]? = some ⟨target, iter, ifs, 0⟩)
    (h0 : codeAny (model prog w) A (.compLoop (.ListComp elt gens scope pos) d it acc cenv) R s)
    (h : wpAny (model prog w) A (pyIter it) (fun it' s' => codeAny (model prog w) A (.compLoop (.ListComp elt gens scope pos) d it' acc cenv) R s') noE s) :
    codeAny (model prog w) A (.compStart (.ListComp elt gens scope pos) d it acc cenv) R s := by
  refine codeAny_of_tree ?_
  show wpAny _ A ((compStart (.ListComp elt gens scope pos) d it acc cenv).onRaise (fun x => do noteFrame x cenv; standAt theWindowsPlace)) _ _ s
  refine wpAny_notedAt (wpAny_mono (E := noE) ?_ (fun _ _ q => q) (fun _ _ e => e.elim))
  have hcl : clausesOf (.ListComp elt gens scope pos) = gens := rfl
  unfold compStart
  simp only [hcl, hg, Option.elim]
  rw [if_neg (show ¬ (((0 : Int) != 0) = true) by decide)]
  refine wpAny_bind (wpAny_askSetting (wpAny_ite ?_))
  split
  · exact wpAny_bind (wpAny_pure (wpAny_pure (And.intro rfl h0)))
  · exact wpAny_bind (wpAny_rule (wpAny_bind (wpAny_standAt (wpAny_bind (wpAny_mono h (fun it' s' h' => wpAny_pure (And.intro rfl h')) fun _ _ x => x)))))
theorem off3_fresh {I C D : Addr} {h : Heap} {oC : Obj} {ys : List Value} {nl : List (Addr × Obj)} (N : News h₀ L h ((C, oC) :: (D, lst ys) :: nl)) (hI : h.objs.size ≤ I) (off : ∀ p ∈ nl, p.1 ≠ C ∧ p.1 ≠ D) : Off3 I C D nl :=
  Off3.of fun p hp => ⟨Nat.ne_of_lt (Nat.lt_of_lt_of_le (Heap.lt_size (N p (.tail _ (.tail _ hp))).1) hI), off p hp⟩
theorem off3_two {I C D : Addr} {nl : List (Addr × Obj)} (off : Off3 I C D nl) : ∀ p ∈ nl, p.1 ≠ C ∧ p.1 ≠ D := fun p hp => (off.mem p hp).2
theorem lev_list {elt : Expr} {gens : List Comprehension} {scope : Scope} {pos : Pos} {d : Nat} {target iter : Expr} {ifs : List Expr} {cenv : Env} {C D l : Addr} {vs : List Value} {k : Nat} {R : Result → Shared → Prop}
    (hg : gens[d]? = some ⟨target, iter, ifs, 0⟩) (hin : ∀ g', gens[d + 1]? = some g' → g'.is_async = 0) (hh : A.handled = none)
    (J : Nat → List Value → (PySem.Str → Option Value) → List (Addr × Obj) → Prop) (Asg : Nat → Value → (PySem.Str → Option Value) → (PySem.Str → Option Value) → Prop) (n₀ : Nat)
    (hJl : ∀ i ys m₂ nl, J i ys m₂ nl → (l, listOf vs.toArray k) ∈ nl)
    (take : ∀ I, Takes prog w A h₀ L I C target cenv (fun i v => vs.toArray[i]? = some v) (fun i h => h.IsListIter I l i ∧ h.IsList l vs.toArray) J Asg vs.toArray.size)
    (turn : ∀ I i v ys m₂ m₃ nl oI oC h tk, vs[i]? = some v → J i ys m₂ nl → Asg i v m₂ m₃ → NsObj oC m₃ → n₀ ≤ tk → Fr h₀ L h m → News h₀ L h ((I, oI) :: (C, oC) :: (D, lst ys) :: nl) → Off3 I C D nl → ((@Ne Nat I C) ∧ (@Ne Nat I D) ∧ (@Ne Nat C D)) →
      wpAny (model prog w) A (testsOf ifs cenv) (fun ok s₃ => if ok = true then CIn prog w A elt gens scope pos d (.ref D) cenv (LevEnd h₀ L m { s with heap := h, toks := tk } I oI C D (J (i + 1))) s₃ else LevEnd h₀ L m { s with heap := h, toks := tk } I oI C D (J (i + 1)) s₃) noE { s with heap := h, toks := tk })
    (done : ∀ h tk ys m₂ oC nl, J vs.length ys m₂ nl → NsObj oC m₂ → n₀ ≤ tk → Fr h₀ L h m → News h₀ L h ((C, oC) :: (D, lst ys) :: nl) → (∀ p ∈ nl, p.1 ≠ C ∧ p.1 ≠ D) → R (.ok .next) { s with heap := h, toks := tk })
    {ys₁ : List Value} {m₁ : PySem.Str → Option Value} {oC₁ : Obj} {nl₁ : List (Addr × Obj)} (ht : n₀ ≤ s.toks) (F : Fr h₀ L s.heap m) (hC : NsObj oC₁ m₁) (N : News h₀ L s.heap ((C, oC₁) :: (D, lst ys₁) :: nl₁)) (off : ∀ p ∈ nl₁, p.1 ≠ C ∧ p.1 ≠ D) (hCD : @Ne Nat C D) (hJ : J 0 ys₁ m₁ nl₁) :
    wpAny (model prog w) A (pyIter (.ref l)) (fun it s₅ => codeAny (model prog w) A (.compStart (.ListComp elt gens scope pos) d it (.ref D) cenv) R s₅) noE s := by
  have hl : s.heap.IsList l vs.toArray := News.isList N (.tail _ (.tail _ (hJl _ _ _ _ hJ)))
  refine wpAny_pyIter_list hl ?_
  have zC := N _ (.head _)
  have zD := N _ (.tail _ (.head _))
  have zl := N _ (.tail _ (.tail _ (hJl _ _ _ _ hJ)))
  have ltC := Heap.lt_size zC.1
  have ltD := Heap.lt_size zD.1
  have ltl := Heap.lt_size zl.1
  have up : ∀ b o, s.heap.get? b = some o → (s.heap.push { cls := .type "list_iterator", data := .fields #[.ref l, .int 0 0] }).get? b = some o := fun b o e => Heap.get?_push_of_some _ e
  have loop := comp_lev (prog := prog) (w := w) (A := A) (s := s) (h₀ := h₀) (L := L) (m := m) (elt := elt) (scope := scope) (pos := pos) (cenv := cenv) (I := s.heap.objs.size) (C := C) (D := D) (fp := [s.heap.objs.size, l]) (R := R) hg hin
    (Walks.list hh s.heap.objs.size l (Nat.ne_of_lt ltl) vs.toArray) (fun i h st => by obtain ⟨o, e, _⟩ := st.1; exact ⟨o, e⟩) J Asg n₀
    (fun i h h' o ys m₂ nl hj st e e' _ N' => ⟨by obtain ⟨o₂, e₂, r⟩ := st.1; rw [e] at e₂; cases e₂; exact ⟨o, e', r⟩, News.isList N' (hJl _ _ _ _ hj)⟩)
    (Ne.symm (Nat.ne_of_lt ltC)) (Ne.symm (Nat.ne_of_lt ltD)) hCD (Nat.ne_of_lt F.ns.lt) (next_is_new F) zC.2.1 zC.2.2
    (fun hm => by
      rcases List.mem_cons.mp hm with e | hm
      · exact Nat.ne_of_lt ltC e
      · exact (off _ (hJl _ _ _ _ hJ)).1 (List.mem_singleton.mp hm).symm)
    (take _)
    (fun i v ys m₂ m₃ nl oI oC h tk hi hP hj ha hoC ht' F' N' off' ne => turn _ i v ys m₂ m₃ nl oI oC h tk (by simpa using hP) hj ha hoC ht' F' N' off' ne)
    (fun h tk ys m₂ oC nl hj hoC ht' F' N' off' => done h tk ys m₂ oC nl (by simpa using hj) hoC ht' F' N' (off3_two off'))
    (h₁ := s.heap.push { cls := .type "list_iterator", data := .fields #[.ref l, .int 0 0] }) (tk₁ := s.toks) ⟨⟨_, Heap.get?_push_size _ rfl, rfl, rfl⟩, hl.push _⟩ ht (F.keeps up) hC (N.grown up) (off3_fresh N (Nat.le_refl _) off) hJ
  exact compStart_any hg loop ((Walks.list hh s.heap.objs.size l (Nat.ne_of_lt ltl) vs.toArray).self 0 _ _ _ ⟨⟨_, Heap.get?_push_size _ rfl, rfl, rfl⟩, hl.push _⟩ loop)
end
end
section
open PySem PySem.W PySem.Calls PyProof.Rows PySem.Spec PyProof.Rows.LCg
set_option maxHeartbeats 2000000
section
variable {prog : Program} {w : World} {A : Around} {s : Shared} {h₀ : Heap} {L : Addr} {m : PySem.Str → Option Value}
theorem cin_last {elt : Expr} {gens : List Comprehension} {scope : Scope} {pos : Pos} {d : Nat} {cenv : Env} {I C D : Addr} {oI oC : Obj} {ys : List Value} {m₃ : PySem.Str → Option Value} {J : List Value → (PySem.Str → Option Value) → List (Addr × Obj) → Prop}
    (hg : gens[d + 1]? = none) (hC : NsObj oC m₃) (hsz : ys.length ≤ sizeLine)
    (h : wpAny (model prog w) A (eval elt cenv) (CompEnd h₀ L m s I oI C oC D (lst ys) (fun _ => @Ne Nat I D ∧ @Ne Nat C D) (fun y nl' => J (ys ++ [y]) m₃ nl')) noE s) :
    CIn prog w A elt gens scope pos d (.ref D) cenv (LevEnd h₀ L m s I oI C D J) s := by
  unfold CIn
  simp only [hg]
  refine wpAny_mono h (fun y s₄ h₄ => ?_) fun _ _ e => e
  refine pack fun G9 hG9 => ?_
  obtain ⟨h₄, tk₄, nl₄, rfl, F₄, N₄, off₄, ⟨hID, hCD⟩, hJ⟩ := h₄
  refine hG9 ?_
  clear hG9
  have zD := N₄ (D, lst ys) (.tail _ (.tail _ (.head _)))
  have off4 := off₄.mem
  refine append_at (hsz := by show ys.toArray.size ≤ sizeLine; rw [List.size_toArray]; exact hsz) zD.1 fun h₅ hs₅ hD₅ => ?_
  refine ⟨h₅, tk₄, ys ++ [y], m₃, oC, nl₄, rfl, F₄.change hs₅ zD.2.1 zD.2.2, hC, fun p hp => ?_, off₄, hJ⟩
  rcases List.mem_cons.mp hp with rfl | hp
  · have z := N₄ (I, oI) (.head _)
    exact ⟨hs₅.extBut _ _ hID z.1, z.2⟩
  · rcases List.mem_cons.mp hp with rfl | hp
    · have z := N₄ (C, oC) (.tail _ (.head _))
      exact ⟨hs₅.extBut _ _ hCD z.1, z.2⟩
    · rcases List.mem_cons.mp hp with rfl | hp
      · exact ⟨hD₅.trans (congrArg some (lst_snoc ys y)), zD.2⟩
      · have z := N₄ p (.tail _ (.tail _ (.tail _ hp)))
        exact ⟨hs₅.extBut _ _ (off4 p hp).2.2 z.1, z.2⟩
theorem cin_more {elt : Expr} {gens : List Comprehension} {scope : Scope} {pos : Pos} {d : Nat} {cenv : Env} {acc : Value} {g' : Comprehension} {Q : Shared → Prop} (hg : gens[d + 1]? = some g') (hf : ∀ x, foldedSetIterable g'.iter cenv x = pure x)
    (h : wpAny (model prog w) A (eval g'.iter cenv) (fun xv s₄ => wpAny (model prog w) A (pyIter xv) (fun it' s₅ => codeAny (model prog w) A (.compStart (.ListComp elt gens scope pos) (d + 1) it' acc cenv) (fun r s' => match r with | .ok _ => Q s' | .error _ => False) s₅) noE s₄) noE s) :
    CIn prog w A elt gens scope pos d acc cenv Q s := by
  unfold CIn
  simp only [hg]
  exact ⟨hf, h⟩
noncomputable abbrev setN (m : PySem.Str → Option Value) (x : PySem.Str) (v : Value) : PySem.Str → Option Value := fun y => if y = x then some v else m y
theorem takes_name {I C : Addr} {x : PySem.Str} {px : Pos} {scope : Scope} {cl : List (PySem.Str × Addr)} {env : Env} {P : Nat → Value → Prop} {St : Nat → Heap → Prop} {J : Nat → List Value → (PySem.Str → Option Value) → List (Addr × Obj) → Prop} {n : Nat}
    (hx : scope.names.lookup x = some .local) (hkind : scope.kind = .function) : Takes prog w A h₀ L I C (.Name x px) (compEnvC scope cl C env) P St J (fun _ v m₂ m₃ => m₃ = setN m₂ x v) n := by
  intro i v s ys m₂ nl Q hi hP hj N hn st hQ
  refine wpAny_of_eq (a := ()) rfl ?_
  refine wpAny_assign_Name (wpAny_storeName_local (lookup_relabel_local hx) hn (fun h₃ hn₃ hs₃ => ?_) (by simp [compEnvC, relabel, hkind]))
  exact hQ h₃ _ _ rfl hn₃ fun b o hb e => hs₃.extBut b o hb e
theorem takes_pair {I C : Addr} {x x₂ : PySem.Str} {px px₂ tp : Pos} {kt} {scope : Scope} {cl : List (PySem.Str × Addr)} {env : Env} {P : Nat → Value → Prop} {St : Nat → Heap → Prop} {J : Nat → List Value → (PySem.Str → Option Value) → List (Addr × Obj) → Prop} {n : Nat} (v₁ v₂ : Nat → Value)
    (hh : A.handled = none) (hx : scope.names.lookup x = some .local) (hx₂ : scope.names.lookup x₂ = some .local) (hkind : scope.kind = .function) (hI : ∀ i h, St i h → ∃ l j, h.IsListIter I l j)
    (hv : ∀ i v ys m₂ nl, i < n → P i v → J i ys m₂ nl → ∃ t ot nt, v = .ref t ∧ (t, ot) ∈ nl ∧ ot.cls = .type "tuple" ∧ ot.data = .seq #[v₁ i, v₂ i] nt) :
    Takes prog w A h₀ L I C (.Tuple [.Name x px, .Name x₂ px₂] kt tp) (compEnvC scope cl C env) P St J (fun i _ m₂ m₃ => m₃ = setN (setN m₂ x (v₁ i)) x₂ (v₂ i)) n := by
  intro i v s ys m₂ nl Q hi hP hj N hn st hQ
  refine pack fun G9 hG9 => ?_
  obtain ⟨t, ot, nt, rfl, hm, hc, hd⟩ := hv i v ys m₂ nl hi hP hj
  obtain ⟨l, j, hLi⟩ := hI _ _ st
  refine hG9 ?_
  clear hG9
  have ht : IsTup s.heap t #[v₁ i, v₂ i] := ⟨ot, (N _ hm).1, hc, nt, hd⟩
  refine wpAny_letOwnedTupleGo_listiter hLi ?_
  refine assign_Tuple_tuple hh ht rfl rfl fun h₅ he => ?_
  have he' : ∀ b o, s.heap.get? b = some o → h₅.get? b = some o := fun b o e => he b o (Nat.ne_of_lt (Heap.lt_size e)) e
  refine assignInOrder_cons (wpAny_assign_Name (wpAny_storeName_local (lookup_relabel_local hx) (hn.at' fun o e => he' _ o e) (fun h₆ hn₆ hs₆ => ?_) (by simp [compEnvC, relabel, hkind])))
  refine assignInOrder_cons (wpAny_assign_Name (wpAny_storeName_local (lookup_relabel_local hx₂) hn₆ (fun h₃ hn₃ hs₃ => ?_) (by simp [compEnvC, relabel, hkind])))
  refine assignInOrder_nil ?_
  exact hQ h₃ _ _ rfl hn₃ fun b o hb e => hs₃.extBut b o hb (hs₆.extBut b o hb (he' b o e))
theorem top_any {elt : Expr} {target iter : Expr} {ifs : List Expr} {rest : List Comprehension} {scope : Scope} {cl : List (PySem.Str × Addr)} {pos : Pos} {env : Env} {I : Addr} {fp : List Addr} {n : Nat} {P : Nat → Value → Prop} {St : Nat → Heap → Prop} {RR : Value → Addr → Result → Shared → Prop} {news : List (Addr × Obj)}
    (hcell : ∀ y ∈ scope.names, y.2 ≠ .cell) (hkind : scope.kind = .function) (hin : ∀ g', rest[0]? = some g' → g'.is_async = 0)
    (W : Walks prog w A I fp [I] n P St) (hIo : ∀ i h, St i h → ∃ o, h.get? I = some o)
    (J : Nat → List Value → (PySem.Str → Option Value) → List (Addr × Obj) → Prop) (Asg : Nat → Value → (PySem.Str → Option Value) → (PySem.Str → Option Value) → Prop) (n₀ : Nat)
    (hSt : ∀ i h h' o ys m₂ nl, J i ys m₂ nl → St i h → h.get? I = some o → h'.get? I = some o → (∀ b o, h₀.get? b = some o → h'.get? b = some o) → News h₀ L h' nl → St i h')
    (hst : St 0 s.heap) (hfp : ∀ b ∈ fp, b < s.heap.objs.size) (F : Fr h₀ L s.heap m) (N : News h₀ L s.heap news) (hIL : L ≠ I) (hI₀ : h₀.get? I = none) (off : ∀ p ∈ news, p.1 ≠ I) (ht : n₀ ≤ s.toks) (hJ : J 0 [] (fun _ => none) news)
    (take : ∀ C, Takes prog w A h₀ L I C target (compEnvC scope cl C env) P St J Asg n)
    (turn : ∀ C D i v ys m₂ m₃ nl oI oC h tk, (∀ p ∈ news, @LT.lt Nat _ p.1 D) → @LT.lt Nat _ I D → @LT.lt Nat _ D C → i < n → P i v → J i ys m₂ nl → Asg i v m₂ m₃ → NsObj oC m₃ → n₀ ≤ tk → Fr h₀ L h m → News h₀ L h ((I, oI) :: (C, oC) :: (D, lst ys) :: nl) → Off3 I C D nl → ((@Ne Nat I C) ∧ (@Ne Nat I D) ∧ (@Ne Nat C D)) →
      wpAny (model prog w) A (testsOf ifs (compEnvC scope cl C env)) (fun ok s₃ => if ok = true then CIn prog w A elt (⟨target, iter, ifs, 0⟩ :: rest) scope pos 0 (.ref D) (compEnvC scope cl C env) (LevEnd h₀ L m { s with heap := h, toks := tk } I oI C D (J (i + 1))) s₃ else LevEnd h₀ L m { s with heap := h, toks := tk } I oI C D (J (i + 1)) s₃) noE { s with heap := h, toks := tk })
    (hRR : ∀ D C h tk m' ys nl, (∀ p ∈ news, p.1 < D) → J n ys m' nl → n₀ ≤ tk → Fr h₀ L h m → News h₀ L h ((D, lst ys) :: nl) → h.Ns C m' → h₀.get? C = none → h₀.get? D = none → C ≠ L → D ≠ L → C ≠ D → (∀ p ∈ nl, p.1 ≠ C ∧ p.1 ≠ D) → RR (.ref D) C (.ok .next) { s with heap := h, toks := tk }) :
    wpAny (model prog w) A (newList []) (fun acc s₃ => wpAny (model prog w) A (newFunctionEnv scope env.globals cl [] env.qual none .none (some env)) (fun cenv s₄ =>
      codeAny (model prog w) A (.compStart (.ListComp elt (⟨target, iter, ifs, 0⟩ :: rest) scope pos) 0 (.ref I) acc { cenv with scope := relabel scope env }) (RR acc cenv.locals) s₄) noE s₃) noE s := by
  refine wpAny_newObj_type (wpAny_newFunctionEnv hcell (by intro y hy; simp at hy) (fun h₁ hns₁ hsb₁ => ?_) hkind)
  dsimp only at hns₁ hsb₁ ⊢
  generalize hH2 : s.heap.push { cls := .type "list", dict := none, data := .seq ([] : List Value).toArray } = H2 at hns₁ hsb₁ ⊢
  have hC : H2.objs.size = s.heap.objs.size + 1 := by rw [← hH2, Heap.size_push]
  have hDltC : @LT.lt Nat _ s.heap.objs.size H2.objs.size := by rw [hC]; exact Nat.lt_succ_self _
  have below : ∀ b, b < s.heap.objs.size → b ≠ H2.objs.size ∧ b ≠ s.heap.objs.size := fun b hb => ⟨by rw [hC]; exact Nat.ne_of_lt (Nat.lt_succ_of_lt hb), Nat.ne_of_lt hb⟩
  have old : ∀ b o, s.heap.get? b = some o → h₁.get? b = some o := fun b o e => hsb₁.extBut b o (below b (Heap.lt_size e)).1 (Heap.get?_push_of_some _ (hH2 ▸ Heap.get?_push_of_some _ e))
  have hacc : h₁.get? s.heap.objs.size = some (lst []) := hsb₁.extBut _ _ (Nat.ne_of_lt hDltC) (Heap.get?_push_of_some _ (hH2 ▸ Heap.get?_push_size _ rfl))
  have fresh : ∀ a, s.heap.objs.size ≤ a → s.heap.get? a = none := fun a ha => by
    cases e : s.heap.get? a with
    | none => rfl
    | some o' => exact absurd (Heap.lt_size e) (Nat.not_lt.mpr ha)
  have fresh₀ : ∀ a, s.heap.objs.size ≤ a → h₀.get? a = none := fun a ha => by
    cases e : h₀.get? a with
    | none => rfl
    | some o' => have := F.keep a o' e; rw [fresh a ha] at this; cases this
  have hD₀ : h₀.get? s.heap.objs.size = none := fresh₀ _ (Nat.le_refl _)
  have hC₀ : h₀.get? H2.objs.size = none := fresh₀ _ (by rw [hC]; exact Nat.le_succ _)
  have hLlt : L < s.heap.objs.size := F.ns.lt
  have hDL : s.heap.objs.size ≠ L := Ne.symm (below L hLlt).2
  have hCL : H2.objs.size ≠ L := Ne.symm (below L hLlt).1
  have hIlt : I < s.heap.objs.size := hfp I (W.sub I (List.mem_singleton.mpr rfl))
  refine pack fun G9 hG9 => ?_
  obtain ⟨oC, heC, hoC⟩ := ns_obj hns₁
  refine hG9 ?_
  clear hG9
  have hst₁ : St 0 h₁ := W.frame _ _ _ hst fun b _ o e => old b o e
  have N₁ : News h₀ L h₁ ((H2.objs.size, oC) :: (s.heap.objs.size, lst []) :: news) := fun p hp => by
    rcases List.mem_cons.mp hp with rfl | hp
    · exact ⟨heC, hCL, hC₀⟩
    · rcases List.mem_cons.mp hp with rfl | hp
      · exact ⟨hacc, hDL, hD₀⟩
      · exact ⟨old _ _ (N p hp).1, (N p hp).2⟩
  have hlo : ∀ p ∈ news, p.1 < s.heap.objs.size := fun p hp => Heap.lt_size (N p hp).1
  have loop := comp_lev (prog := prog) (w := w) (A := A) (s := s) (h₀ := h₀) (L := L) (m := m) (elt := elt) (gens := ⟨target, iter, ifs, 0⟩ :: rest) (scope := scope) (pos := pos) (d := 0) (cenv := compEnvC scope cl H2.objs.size env) (I := I) (C := H2.objs.size) (D := s.heap.objs.size) (fp := fp) (R := RR (.ref s.heap.objs.size) H2.objs.size)
    rfl (by intro g' hg'; exact hin g' (by simpa using hg')) W hIo J Asg n₀ hSt (below I hIlt).1 (below I hIlt).2 (Ne.symm (Nat.ne_of_lt hDltC)) hIL hI₀ hCL hC₀ (fun hm => (below _ (hfp _ hm)).1 rfl) (take _)
    (fun i v ys m₂ m₃ nl oI oC h tk hi hP hj ha hoC ht' F' N' off' ne => turn _ _ i v ys m₂ m₃ nl oI oC h tk hlo hIlt hDltC hi hP hj ha hoC ht' F' N' off' ne)
    (fun h tk ys m₂ oC nl hj hoC ht' F' N' off' => hRR _ _ h tk m₂ ys nl hlo hj ht' F' (fun p hp => N' p (.tail _ hp)) (hoC.ns (N' _ (.head _)).1) hC₀ hD₀ hCL hDL (Ne.symm (Nat.ne_of_lt hDltC)) (off3_two off'))
    (h₁ := h₁) (tk₁ := s.toks + ([] : List (PySem.Str × Value)).length) hst₁ ht (F.keeps old) hoC N₁ (Off3.of fun p hp => ⟨off p hp, below _ (hlo p hp)⟩) hJ
  exact compStart_any (gens := ⟨target, iter, ifs, 0⟩ :: rest) rfl loop (W.self 0 _ _ _ hst₁ loop)
end
end
section
open PySem PySem.W PySem.Calls PyProof.Rows PySem.Spec PyProof.Rows.LCg
set_option maxHeartbeats 2000000
noncomputable def TopStart (prog : Program) (w : World) (A : Around) (elt : Expr) (gens : List Comprehension) (scope : Scope) (pos : Pos) (env : Env) (cl : List (PySem.Str × Addr)) (RR : Value → Addr → Result → Shared → Prop) (it : Value) (s : Shared) : Prop :=
  wpAny (model prog w) A (newList []) (fun acc s₃ => wpAny (model prog w) A (newFunctionEnv scope env.globals cl [] env.qual none .none (some env)) (fun cenv s₄ =>
      codeAny (model prog w) A (.compStart (.ListComp elt gens scope pos) 0 it acc { cenv with scope := relabel scope env }) (RR acc cenv.locals) s₄) noE s₃) noE s
noncomputable def Ends (h₀ : Heap) (L : Addr) (m : PySem.Str → Option Value) (s : Shared) (Done : Addr → Heap → Nat → Prop) (RR : Value → Addr → Result → Shared → Prop) : Prop :=
  ∀ D C h tk m' ys nl, Fr h₀ L h m → News h₀ L h ((D, lst ys) :: nl) → h.Ns C m' → h₀.get? C = none → C ≠ L → D ≠ L → C ≠ D → (∀ p ∈ nl, p.1 ≠ C) → Done D h tk → RR (.ref D) C (.ok .next) { s with heap := h, toks := tk }
section
variable {prog : Program} {w : World} {A : Around} {s : Shared} {h₀ : Heap} {L : Addr} {m : PySem.Str → Option Value}
noncomputable def FinD (h₀ : Heap) (L : Addr) (m : PySem.Str → Option Value) (Q : Value → Nat → Heap → Prop) (RR : Value → Addr → Result → Shared → Prop) (s : Shared) : Prop :=
  ∀ D C h tk m' ys nl, Fr h₀ L h m → News h₀ L h ((D, lst ys) :: nl) → h.Ns C m' → h₀.get? C = none → C ≠ L → D ≠ L → C ≠ D → (∀ p ∈ nl, p.1 ≠ C) →
    (∀ h'', Fr h₀ L h'' m → News h₀ L h'' ((D, lst ys) :: nl) → Q (.ref D) tk h'') → RR (.ref D) C (.ok .next) { s with heap := h, toks := tk }
theorem finD_eval {Q : Value → Shared → Prop} : FinD h₀ L m (fun v tk h => Q v { s with heap := h, toks := tk }) (fun acc C => compPost (model prog w) A noE none Q acc C) s := by
  intro D C h tk m' ys nl F N hn hC₀ hCL hDL hCD offC fin
  refine ⟨m', hn, fun h'' hs'' => fin h'' (F.change hs'' hCL hC₀) fun p hp => ?_⟩
  refine ⟨hs''.extBut _ _ ?_ (N p hp).1, (N p hp).2⟩
  rcases List.mem_cons.mp hp with rfl | hp
  · exact Ne.symm hCD
  · exact offC p hp
noncomputable def FinA' (h₀ : Heap) (L : Addr) (m : PySem.Str → Option Value) (y : PySem.Str) (Q : Flow → Shared → Prop) (RR : Value → Addr → Result → Shared → Prop) (s : Shared) : Prop :=
  ∀ D C h tk m' ys nl, Fr h₀ L h m → News h₀ L h ((D, lst ys) :: nl) → h.Ns C m' → h₀.get? C = none → C ≠ L → D ≠ L → C ≠ D → (∀ p ∈ nl, p.1 ≠ C) →
    (∀ h'', Fr h₀ L h'' (setN m y (.ref D)) → News h₀ L h'' ((D, lst ys) :: nl) → Q .next { s with heap := h'', toks := tk + 1 }) → RR (.ref D) C (.ok .next) { s with heap := h, toks := tk }
theorem finA_assign {env : Env} {y : PySem.Str} {py : Pos} {Q : Flow → Shared → Prop} (hLe : env.locals = L) (hy : env.kindOf y = some .local) (hp : (env.scope.kind == .class || (env.scope.kind == .module && env.locals != env.globals)) = false) :
    FinA' h₀ L m y Q (fun acc C => compPost (model prog w) A noE (some (assign (.Name y py) env)) (fun _ s' => Q .next s') acc C) s := by
  subst hLe
  intro D C h tk m' ys nl F N hn hC₀ hCL hDL hCD offC fin
  show wpAny _ A (assign (.Name y py) env (.ref D)) _ _ _
  refine wpAny_assign_Name (wpAny_storeName_local hy F.ns (fun h₂ hn₂ hs₂ => ?_) hp)
  have hL₀ : h₀.get? env.locals = none := Heap.get?_none_of_le F.above
  have F₂ : Fr h₀ env.locals h₂ (setN m y (.ref D)) := ⟨hn₂, fun b o e => hs₂.extBut b o (fun q => by rw [q, hL₀] at e; cases e) (F.keep b o e), F.above⟩
  refine ⟨m', hn.sameBut hs₂ hCL, fun h'' hs'' => fin h'' (F₂.change hs'' hCL hC₀) (fun p hp => ?_)⟩
  have z : h₂.get? p.1 = some p.2 := hs₂.extBut _ _ (N p hp).2.1 (N p hp).1
  refine ⟨hs''.extBut _ _ ?_ z, (N p hp).2⟩
  rcases List.mem_cons.mp hp with rfl | hp
  · exact Ne.symm hCD
  · exact offC p hp
theorem ListComp_own {elt target iter : Expr} {ifs : List Expr} {rest : List Comprehension} {scope : Scope} {cl : List (PySem.Str × Addr)} {pos : Pos} {env : Env} {Q : Value → Shared → Prop}
    (hclos : closureFor scope env = pure cl) (hkind : scope.kind = .function) (hnames : ∀ y ∈ scope.names, y.2 = .local → scope.names.lookup y.1 = some .local)
    (h : wpAny (model prog w) A (eval iter env) (fun xv s₁ => wpAny (model prog w) A (pyIter xv) (TopStart prog w A elt (⟨target, iter, ifs, 0⟩ :: rest) scope pos env cl (fun acc C => compPost (model prog w) A noE none Q acc C)) noE s₁) noE s)
    (hs : ∀ x, foldedSetIterable iter env x = pure x := by intro _; rfl) :
    wpAny (model prog w) A (eval (.ListComp elt (⟨target, iter, ifs, 0⟩ :: rest) scope pos) env) Q noE s := by
  rw [eval_ListComp]
  exact wpAny_comprehension_free (use := none) rfl hs hclos hkind hnames (wpAny_mono h (fun xv s₁ h₁ => wpAny_mono h₁ (fun it s₂ h₂ => h₂) fun _ _ e => e) fun _ _ e => e)
theorem Assign_own {elt target iter : Expr} {ifs : List Expr} {rest : List Comprehension} {scope : Scope} {cl : List (PySem.Str × Addr)} {pos spos : Pos} {y : PySem.Str} {py : Pos} {env : Env} {Q : Flow → Shared → Prop}
    (hsw : swapsWith (.ListComp elt (⟨target, iter, ifs, 0⟩ :: rest) scope pos) (some (.Name y py)) spos.line env = pure true)
    (hclos : closureFor scope env = pure cl) (hkind : scope.kind = .function) (hnames : ∀ y ∈ scope.names, y.2 = .local → scope.names.lookup y.1 = some .local)
    (h : wpAny (model prog w) A (eval iter env) (fun xv s₁ => wpAny (model prog w) A (pyIter xv) (TopStart prog w A elt (⟨target, iter, ifs, 0⟩ :: rest) scope pos env cl (fun acc C => compPost (model prog w) A noE (some (assign (.Name y py) env)) (fun _ s' => Q .next s') acc C)) noE s₁) noE s)
    (hs : ∀ x, foldedSetIterable iter env x = pure x := by intro _; rfl) :
    wpAny (model prog w) A (exec (.Assign [.Name y py] (.ListComp elt (⟨target, iter, ifs, 0⟩ :: rest) scope pos) spos) env) Q noE s := by
  rw [exec_Assign_Name_used _ _ _ _ hsw]
  refine wpAny_bind (wpAny_standAt (wpAny_bind ?_))
  show wpAny _ A (do let _ ← comprehension (.ListComp elt (⟨target, iter, ifs, 0⟩ :: rest) scope pos) scope env _ (newList []) false (eval iter env) (some (assign (.Name y py) env))) _ _ s
  exact wpAny_bind (wpAny_mono (wpAny_comprehension_free (use := some (assign (.Name y py) env)) (Q := fun _ s' => Q .next s') rfl hs hclos hkind hnames
    (wpAny_mono h (fun xv s₁ h₁ => wpAny_mono h₁ (fun it s₂ h₂ => h₂) fun _ _ e => e) fun _ _ e => e)) (fun _ s' hq => wpAny_pure (wpAny_pure hq)) fun _ _ e => e)
theorem top_list {elt : Expr} {target iter : Expr} {ifs : List Expr} {rest : List Comprehension} {scope : Scope} {cl : List (PySem.Str × Addr)} {pos : Pos} {env : Env} {l : Addr} {vs : List Value} {k : Nat} {RR : Value → Addr → Result → Shared → Prop} {news : List (Addr × Obj)}
    (hcell : ∀ y ∈ scope.names, y.2 ≠ .cell) (hkind : scope.kind = .function) (hin : ∀ g', rest[0]? = some g' → g'.is_async = 0) (hh : A.handled = none)
    (J : Nat → List Value → (PySem.Str → Option Value) → List (Addr × Obj) → Prop) (Asg : Nat → Value → (PySem.Str → Option Value) → (PySem.Str → Option Value) → Prop) (n₀ : Nat)
    (hJl : ∀ i ys m₂ nl, J i ys m₂ nl → (l, listOf vs.toArray k) ∈ nl)
    (F : Fr h₀ L s.heap m) (N : News h₀ L s.heap news) (ht : n₀ ≤ s.toks) (hJ : J 0 [] (fun _ => none) news)
    (take : ∀ I C, Takes prog w A h₀ L I C target (compEnvC scope cl C env) (fun i v => vs.toArray[i]? = some v) (fun i h => h.IsListIter I l i ∧ h.IsList l vs.toArray) J Asg vs.toArray.size)
    (turn : ∀ I C D i v ys m₂ m₃ nl oI oC h tk, (∀ p ∈ news, @LT.lt Nat _ p.1 I) → @LT.lt Nat _ I D → @LT.lt Nat _ D C → vs[i]? = some v → J i ys m₂ nl → Asg i v m₂ m₃ → NsObj oC m₃ → n₀ ≤ tk → Fr h₀ L h m → News h₀ L h ((I, oI) :: (C, oC) :: (D, lst ys) :: nl) → Off3 I C D nl → ((@Ne Nat I C) ∧ (@Ne Nat I D) ∧ (@Ne Nat C D)) →
      wpAny (model prog w) A (testsOf ifs (compEnvC scope cl C env)) (fun ok s₃ => if ok = true then CIn prog w A elt (⟨target, iter, ifs, 0⟩ :: rest) scope pos 0 (.ref D) (compEnvC scope cl C env) (LevEnd h₀ L m { s with heap := h, toks := tk } I oI C D (J (i + 1))) s₃ else LevEnd h₀ L m { s with heap := h, toks := tk } I oI C D (J (i + 1)) s₃) noE { s with heap := h, toks := tk })
    (hRR : ∀ D C h tk m' ys nl, (∀ p ∈ news, p.1 < D) → J vs.length ys m' nl → n₀ ≤ tk → Fr h₀ L h m → News h₀ L h ((D, lst ys) :: nl) → h.Ns C m' → h₀.get? C = none → h₀.get? D = none → C ≠ L → D ≠ L → C ≠ D → (∀ p ∈ nl, p.1 ≠ C ∧ p.1 ≠ D) → RR (.ref D) C (.ok .next) { s with heap := h, toks := tk }) :
    wpAny (model prog w) A (pyIter (.ref l)) (TopStart prog w A elt (⟨target, iter, ifs, 0⟩ :: rest) scope pos env cl RR) noE s := by
  have hl : s.heap.IsList l vs.toArray := News.isList N (hJl _ _ _ _ hJ)
  refine wpAny_pyIter_list hl ?_
  have ltl := Heap.lt_size (N _ (hJl _ _ _ _ hJ)).1
  have up : ∀ b o, s.heap.get? b = some o → (s.heap.push { cls := .type "list_iterator", data := .fields #[.ref l, .int 0 0] }).get? b = some o := fun b o e => Heap.get?_push_of_some _ e
  have hlo : ∀ p ∈ news, p.1 < s.heap.objs.size := fun p hp => Heap.lt_size (N p hp).1
  refine top_any (s := { s with heap := s.heap.push { cls := .type "list_iterator", data := .fields #[.ref l, .int 0 0] } }) (I := s.heap.objs.size) (fp := [s.heap.objs.size, l]) hcell hkind hin (Walks.list hh s.heap.objs.size l (Nat.ne_of_lt ltl) vs.toArray) (fun i h st => by obtain ⟨o, e, _⟩ := st.1; exact ⟨o, e⟩) J Asg n₀
    (fun i h h' o ys m₂ nl hj st e e' _ N' => ⟨by obtain ⟨o₂, e₂, r⟩ := st.1; rw [e] at e₂; cases e₂; exact ⟨o, e', r⟩, News.isList N' (hJl _ _ _ _ hj)⟩)
    ⟨⟨_, Heap.get?_push_size _ rfl, rfl, rfl⟩, hl.push _⟩ (fun b hb => ?_) (F.keeps up) (N.grown up) (Nat.ne_of_lt F.ns.lt) (next_is_new F) (fun p hp => Nat.ne_of_lt (hlo p hp)) ht hJ (take _) ?_ ?_
  · show b < (s.heap.push _).objs.size
    rw [Heap.size_push]
    rcases List.mem_cons.mp hb with rfl | hb
    · exact Nat.lt_succ_self _
    · rw [List.mem_singleton.mp hb]; exact Nat.lt_succ_of_lt ltl
  · intro C D i v ys m₂ m₃ nl oI oC h tk hD hID hDC hi hP hj ha hoC ht' F' N' off' ne
    exact turn _ C D i v ys m₂ m₃ nl oI oC h tk hlo hID hDC (by simpa using hP) hj ha hoC ht' F' N' off' ne
  · intro D C h tk m' ys nl hD hj ht' F' N' hn hC₀ hD₀ hCL hDL hCD off
    exact hRR D C h tk m' ys nl hD (by simpa using hj) ht' F' N' hn hC₀ hD₀ hCL hDL hCD off
theorem top_range {elt : Expr} {target iter : Expr} {ifs : List Expr} {rest : List Comprehension} {scope : Scope} {cl : List (PySem.Str × Addr)} {pos : Pos} {env : Env} {r : Addr} {a b : Int} {t₁ t₂ t₃ : Tok} (n : Nat) {RR : Value → Addr → Result → Shared → Prop} {news : List (Addr × Obj)}
    (hcell : ∀ y ∈ scope.names, y.2 ≠ .cell) (hkind : scope.kind = .function) (hin : ∀ g', rest[0]? = some g' → g'.is_async = 0) (hh : A.handled = none)
    (J : Nat → List Value → (PySem.Str → Option Value) → List (Addr × Obj) → Prop) (Asg : Nat → Value → (PySem.Str → Option Value) → (PySem.Str → Option Value) → Prop) (n₀ : Nat)
    (hr : IsRange s.heap r a b 1 t₁ t₂ t₃) (hsm : Builtin.Range.small a b 1 = true) (hn : Builtin.Range.rangeSize a b 1 = (n : Int))
    (F : Fr h₀ L s.heap m) (N : News h₀ L s.heap news) (ht : n₀ ≤ s.toks) (hJ : J 0 [] (fun _ => none) news)
    (take : ∀ I C, Takes prog w A h₀ L I C target (compEnvC scope cl C env) (fun i v => ∃ t, v = .int (a + (i : Int)) t) (fun i h => IsRangeIter h I (a + (i : Nat) * 1) ((n : Int) - (i : Nat)) 1) J Asg n)
    (turn : ∀ I C D i t ys m₂ m₃ nl oI oC h tk, (∀ p ∈ news, @LT.lt Nat _ p.1 I) → @LT.lt Nat _ I D → @LT.lt Nat _ D C → i < n → J i ys m₂ nl → Asg i (.int (a + (i : Int)) t) m₂ m₃ → NsObj oC m₃ → n₀ ≤ tk → Fr h₀ L h m → News h₀ L h ((I, oI) :: (C, oC) :: (D, lst ys) :: nl) → Off3 I C D nl → ((@Ne Nat I C) ∧ (@Ne Nat I D) ∧ (@Ne Nat C D)) →
      wpAny (model prog w) A (testsOf ifs (compEnvC scope cl C env)) (fun ok s₃ => if ok = true then CIn prog w A elt (⟨target, iter, ifs, 0⟩ :: rest) scope pos 0 (.ref D) (compEnvC scope cl C env) (LevEnd h₀ L m { s with heap := h, toks := tk } I oI C D (J (i + 1))) s₃ else LevEnd h₀ L m { s with heap := h, toks := tk } I oI C D (J (i + 1)) s₃) noE { s with heap := h, toks := tk })
    (hRR : ∀ D C h tk m' ys nl, (∀ p ∈ news, p.1 < D) → J n ys m' nl → n₀ ≤ tk → Fr h₀ L h m → News h₀ L h ((D, lst ys) :: nl) → h.Ns C m' → h₀.get? C = none → h₀.get? D = none → C ≠ L → D ≠ L → C ≠ D → (∀ p ∈ nl, p.1 ≠ C ∧ p.1 ≠ D) → RR (.ref D) C (.ok .next) { s with heap := h, toks := tk }) :
    wpAny (model prog w) A (pyIter (.ref r)) (TopStart prog w A elt (⟨target, iter, ifs, 0⟩ :: rest) scope pos env cl RR) noE s := by
  refine wpAny_pyIter_range hr hsm ?_
  have up : ∀ b' o, s.heap.get? b' = some o → (s.heap.push { cls := .type "range_iterator", data := .fields #[rawInt a, rawInt (Builtin.Range.rangeSize a b 1), rawInt 1] }).get? b' = some o := fun b o e => Heap.get?_push_of_some _ e
  have hlo : ∀ p ∈ news, p.1 < s.heap.objs.size := fun p hp => Heap.lt_size (N p hp).1
  refine top_any (s := { s with heap := s.heap.push { cls := .type "range_iterator", data := .fields #[rawInt a, rawInt (Builtin.Range.rangeSize a b 1), rawInt 1] } }) (I := s.heap.objs.size) (fp := [s.heap.objs.size]) hcell hkind hin (range_walks hh a n) (fun i h st => ⟨_, st⟩) J Asg n₀
    (fun i h h' o ys m₂ nl hj st e e' k N' => range_st i h h' o nl st e e' k N' trivial)
    (by show IsRangeIter _ _ _ _ _; rw [hn]; simpa using Heap.get?_push_size _ rfl) (fun b hb => ?_) (F.keeps up) (N.grown up) (Nat.ne_of_lt F.ns.lt) (next_is_new F) (fun p hp => Nat.ne_of_lt (hlo p hp)) ht hJ (take _) ?_ ?_
  · show b < (s.heap.push _).objs.size
    rw [Heap.size_push, List.mem_singleton.mp hb]
    exact Nat.lt_succ_self _
  · intro C D i v ys m₂ m₃ nl oI oC h tk hD hID hDC hi hP hj ha hoC ht' F' N' off' ne
    obtain ⟨t, rfl⟩ := hP
    exact turn _ C D i t ys m₂ m₃ nl oI oC h tk hlo hID hDC hi hj ha hoC ht' F' N' off' ne
  · intro D C h tk m' ys nl hD hj ht' F' N' hn hC₀ hD₀ hCL hDL hCD off
    exact hRR D C h tk m' ys nl hD hj ht' F' N' hn hC₀ hD₀ hCL hDL hCD off
end
end
section
open PySem PySem.W PySem.Calls PyProof.Rows PySem.Spec PyProof.Rows.LCg
section
variable {prog : Program} {w : World} {A : Around} {E : Value → Shared → Prop} {s : Shared} {Q : Bool → Shared → Prop} {env : Env} {c : Expr}
theorem testsOf_nil (h : Q true s) : wpAny (model prog w) A (testsOf [] env) Q E s := wpAny_pure h
theorem testsOf_one (h : wpAny (model prog w) A (isTrue c env (eval c env)) Q E s) : wpAny (model prog w) A (testsOf [c] env) Q E s := by
  show wpAny (model prog w) A (forIn [c] true _) Q E s
  rw [List.forIn_cons]
  refine wpAny_bind ?_
  simp only [if_true]
  refine wpAny_bind (wpAny_mono h (fun ok s' hq => wpAny_pure ?_) fun _ _ e => e)
  exact wpAny_pure hq
end
section
variable {prog : Program} {w : World} {A : Around} {s s₀ : Shared} {h₀ : Heap} {L : Addr} {m : PySem.Str → Option Value}
theorem cin_end {elt : Expr} {gens : List Comprehension} {scope : Scope} {pos : Pos} {d : Nat} {cenv : Env} {I C D : Addr} {oI oC : Obj} {ys : List Value} {m₃ : PySem.Str → Option Value} {J : List Value → (PySem.Str → Option Value) → List (Addr × Obj) → Prop}
    (hs : ∃ h tk, s = { s₀ with heap := h, toks := tk }) (hg : gens[d + 1]? = none) (hC : NsObj oC m₃) (hsz : ys.length ≤ sizeLine)
    (h : wpAny (model prog w) A (eval elt cenv) (CompEnd h₀ L m s I oI C oC D (lst ys) (fun _ => @Ne Nat I D ∧ @Ne Nat C D) (fun y nl' => J (ys ++ [y]) m₃ nl')) noE s) :
    CIn prog w A elt gens scope pos d (.ref D) cenv (LevEnd h₀ L m s₀ I oI C D J) s := by
  obtain ⟨h', tk, rfl⟩ := hs
  exact cin_last (s := { s₀ with heap := h', toks := tk }) hg hC hsz h
end
end
section
open PySem PySem.W PySem.Calls PyProof.Rows PySem.Spec PyProof.V
theorem strs_take : ∀ {vs : List Value} {ss : List PySem.Str} (n : Nat), StrsAre vs ss → StrsAre (vs.take n) (ss.take n)
  | _, _, 0, _ => by simpa using StrsAre.nil
  | _, _, _ + 1, .nil => by simpa using StrsAre.nil
  | _, _, n + 1, .cons _ t r => by simpa using StrsAre.cons _ t (strs_take n r)
theorem strs_drop : ∀ {vs : List Value} {ss : List PySem.Str} (n : Nat), StrsAre vs ss → StrsAre (vs.drop n) (ss.drop n)
  | _, _, 0, h => by simpa using h
  | _, _, _ + 1, .nil => by simpa using StrsAre.nil
  | _, _, n + 1, .cons _ t r => by simpa using strs_drop n r
theorem strsOk_take {ss : List PySem.Str} (n : Nat) (h : StrsOk ss) : StrsOk (ss.take n) := fun x hx => h x (List.mem_of_mem_take hx)
theorem strsOk_drop {ss : List PySem.Str} (n : Nat) (h : StrsOk ss) : StrsOk (ss.drop n) := fun x hx => h x (List.mem_of_mem_drop hx)
theorem ints_carried : ∀ {vs : List Value} {ss : List Int}, IntsAre vs ss → CarriedAll vs (ss.map PyData.int)
  | _, _, .nil => .nil
  | _, _, .cons _ t r => .cons (.int _ t) (ints_carried r)
theorem ki_canLayAll0 : ∀ ns : List Int, PyData.canLayAll0 (ns.map PyData.int) = true
  | [] => rfl
  | a :: r => by simp [PyData.canLayAll0, PyData.canLay0, ki_canLayAll0 r]
theorem ki_depthAll : ∀ ns : List Int, PyData.depthAll (ns.map PyData.int) = 0
  | [] => rfl
  | _ :: r => by simp [PyData.depthAll, PyData.depth, ki_depthAll r]
theorem ki_shaped (ns : List Int) : SeqAt.shaped (.list (ns.map PyData.int)) = true := by
  simp [SeqAt.shaped, PyData.canLay0, PyData.depth, ki_canLayAll0 ns, ki_depthAll]
theorem ki_sameAll : ∀ ns ms : List Int, PySem.Spec.sameAll (ns.map PyData.int) (ms.map PyData.int) = decide (ns = ms)
  | [], [] => by simp [PySem.Spec.sameAll]
  | [], _ :: _ => by simp [PySem.Spec.sameAll]
  | _ :: _, [] => by simp [PySem.Spec.sameAll]
  | a :: r, b :: t => by
    simp only [List.map_cons, PySem.Spec.sameAll, PySem.Spec.same, ki_sameAll r t]
    by_cases h : a = b <;> by_cases h' : r = t <;> simp [h, h']
theorem ki_same (ns ms : List Int) : PySem.Spec.same (.list (ns.map PyData.int)) (.list (ms.map PyData.int)) = decide (ns = ms) := by
  simp only [PySem.Spec.same]; exact ki_sameAll ns ms
section
variable {prog : Program} {w : World} {A : Around} {E : Value → Shared → Prop} {s : Shared} {a b : Addr} {xs ys : List Value} {ns ms : List Int} {Q : Value → Shared → Prop}
theorem ki_eq (ha : s.heap.IsList a xs.toArray) (hb : s.heap.IsList b ys.toArray) (hi : IntsAre xs ns) (hj : IntsAre ys ms) (hu : A.units + 64 < cLine) (h : Q (.bool (decide (ns = ms))) s) :
    wpAny (model prog w) A (compareOp .Eq (.ref a) (.ref b)) Q E s :=
  eq_dataH_same (reads_newData ha (ints_carried hi)) (reads_newData hb (ints_carried hj)) (ki_shaped _) (ki_shaped _) hu (SeqAt.noMix_of_shape (.list .int) rfl _ _ (list_map_has fun _ => rfl) (list_map_has fun _ => rfl)) (by rw [ki_same]; exact h)
theorem ki_ne (ha : s.heap.IsList a xs.toArray) (hb : s.heap.IsList b ys.toArray) (hi : IntsAre xs ns) (hj : IntsAre ys ms) (hu : A.units + 64 < cLine) (h : Q (.bool (!decide (ns = ms))) s) :
    wpAny (model prog w) A (compareOp .NotEq (.ref a) (.ref b)) Q E s :=
  ne_dataH_same (reads_newData ha (ints_carried hi)) (reads_newData hb (ints_carried hj)) (ki_shaped _) (ki_shaped _) hu (SeqAt.noMix_of_shape (.list .int) rfl _ _ (list_map_has fun _ => rfl) (list_map_has fun _ => rfl)) (by rw [ki_same]; exact h)
end
end
section
section
variable {prog : Program} {w : World} {A : Around} {E : Value → Shared → Prop} {s : Shared} {g : Heap} {L : Addr} {news : List (Addr × Obj)}
theorem len_led {l : Addr} {vs : List Value} {k : Nat} {Q : Value → Shared → Prop} (N : News g L s.heap news) (hm : (l, listOf vs.toArray k) ∈ news) (hz : vs.length < 16384)
    (h : ∀ t tk, Q (.int (vs.length : Int) t) { s with toks := tk }) : wpAny (model prog w) A (call (.builtin "len") [.ref l]) Q E s :=
  kun_lenL (News.isList N hm) (by simp) (by omega) (h _ _)
theorem item_led {value slice : Expr} {l : Addr} {vs : List Value} {k i : Nat} {x : Value} {t : Tok} {Q : Value → Shared → Prop} (N : News g L s.heap news) (hm : (l, listOf vs.toArray k) ∈ news) (hi : i < 1000000) (hx : vs[i]? = some x) (h : Q x s)
    (hs : subscripted slice false (.ref l) (.int (i : Int) t) = operate [.ref l, .int (i : Int) t] (getItem (.ref l) (.int (i : Int) t)) := by with_unfolding_all rfl) :
    wpAny (model prog w) A (subscriptTail value slice (.ref l) (.int (i : Int) t)) Q E s :=
  item_listR (News.isList N hm) (by omega) (by omega) (by simpa using hx) h hs
theorem item_neg {value slice : Expr} {l : Addr} {vs : List Value} {k i : Nat} {x : Value} {t : Tok} {z : Int} {Q : Value → Shared → Prop} (N : News g L s.heap news) (hm : (l, listOf vs.toArray k) ∈ news) (h0 : 0 < i) (hi : i ≤ vs.length) (hz : vs.length < 1000000) (e : z = -(i : Int)) (hx : vs[vs.length - i]? = some x) (h : Q x s)
    (hs : subscripted slice false (.ref l) (.int z t) = operate [.ref l, .int z t] (getItem (.ref l) (.int z t)) := by with_unfolding_all rfl) :
    wpAny (model prog w) A (subscriptTail value slice (.ref l) (.int z t)) Q E s :=
  kde_neg (News.isList N hm) (by omega) (by omega) (j := vs.length - i) (by
    unfold seqIndex?
    subst e
    simp only
    simp
    omega) hx h hs
noncomputable def insAt (vs : List Value) (i : Nat) (v : Value) : List Value := vs.take i ++ v :: vs.drop i
theorem ins_led {m : PySem.Str → Option Value} {l : Addr} {vs : List Value} {k i : Nat} {v : Value} {t : Tok} {R : List (Addr × Obj)} {Q : Value → Shared → Prop} (F : Fr g L s.heap m) (N : News g L s.heap ((l, listOf vs.toArray k) :: R)) (hR : ∀ p ∈ R, p.1 ≠ l) (hi : i ≤ vs.length) (hz : vs.length < 1000000)
    (h : ∀ h', Fr g L h' m → News g L h' ((l, listOf (insAt vs i v).toArray (k + 1)) :: R) → Q .none { s with heap := h' }) : wpAny (model prog w) A (call (.builtin "list.insert") [.ref l, .int (i : Int) t, v]) Q E s := by
  have hfit : Builtin.List.listFitsIndex (i : Int) = true := by
    unfold Builtin.List.listFitsIndex
    simp
    omega
  refine kl_insert (l := insAt vs i v) F N hfit ?_ (by k_upd) (by rw [sizeLine_eq]; show vs.length ≤ _; omega) h
  show kl_ins vs (i : Int) v = insAt vs i v
  unfold kl_ins insAt
  rw [if_neg (by omega), Int.toNat_natCast, Nat.min_eq_left hi]
theorem pick_nat (l : List Value) (a b : Nat) : kms_pick l (some (a : Int)) (some (b : Int)) = (l.drop a).take (b - a) := by
  unfold kms_pick kms_lo kms_hi
  simp only [show ¬ ((a : Int) < 0) by omega, show ¬ ((b : Int) < 0) by omega, if_false, Int.toNat_natCast]
  by_cases ha : a ≤ l.length
  · rw [Nat.min_eq_left ha]
    by_cases hb : b ≤ l.length
    · rw [Nat.min_eq_left hb]
    · rw [Nat.min_eq_right (by omega), List.take_of_length_le (by rw [List.length_drop]; omega), List.take_of_length_le (by rw [List.length_drop]; omega)]
  · rw [show min a l.length = l.length by omega, List.drop_eq_nil_of_le (show l.length ≤ a by omega), List.drop_eq_nil_of_le (Nat.le_refl _)]
    simp
theorem pick_upto (l : List Value) (b : Nat) : kms_pick l none (some (b : Int)) = l.take b := by
  have := pick_nat l 0 b
  unfold kms_pick kms_lo kms_hi at *
  simpa using this
theorem slice_led {m : PySem.Str → Option Value} {value slice : Expr} {l : Addr} {vs : List Value} {k a b : Nat} {za zb : Int} {ta tb : Tok} {Q : Value → Shared → Prop} (F : Fr g L s.heap m) (N : News g L s.heap news) (hm : (l, listOf vs.toArray k) ∈ news) (ea : za = (a : Int)) (eb : zb = (b : Int)) (hz : vs.length < 1000000)
    (h : ∀ D h', Fr g L h' m → News g L h' ((D, listOf ((vs.drop a).take (b - a)).toArray 0) :: news) → (∀ p ∈ news, @LT.lt Nat _ p.1 D) → Q (.ref D) { s with heap := h' })
    (hs : subscripted slice false (.ref l) (.ref s.heap.objs.size) = operate [.ref s.heap.objs.size, .ref l] (getItem (.ref l) (.ref s.heap.objs.size)) := by with_unfolding_all rfl) (ht : ∀ r, letTemporaryGo value (.ref l) r = pure () := by intro _; with_unfolding_all rfl) :
    wpAny (model prog w) A (subscriptTail value slice (.ref l) (.ref s.heap.objs.size)) Q E { s with heap := s.heap.push { cls := .type "slice", data := .fields #[.int za ta, .int zb tb, .none] } } := by
  subst ea eb
  exact kms_slice_lit F N (News.isList N hm) (.int _ _) (.int _ _) (pick_nat vs a b) h hs ht (by rw [sizeLine_eq]; show vs.length ≤ _; omega)
end
end
section
local macro_rules | `(tactic| walk_at "execs cons") => `(tactic| k_fold)
theorem mid_ge {lo hi : Nat} (h : lo < hi) : lo ≤ (lo + hi) / 2 := by omega
theorem mid_lt {lo hi : Nat} (h : lo < hi) : (lo + hi) / 2 < hi := by omega
theorem up_less {lo hi : Nat} (h : lo < hi) : hi - ((lo + hi) / 2 + 1) < hi - lo := Nat.sub_lt_sub_left h (Nat.lt_succ_of_le (mid_ge h))
theorem down_less {lo hi : Nat} (h : lo < hi) : (lo + hi) / 2 - lo < hi - lo := Nat.sub_lt_sub_right (mid_ge h) (mid_lt h)
noncomputable def bisL (p : Nat → Bool) (lo hi : Nat) : Nat :=
  if h : lo < hi then if p ((lo + hi) / 2) then bisL p ((lo + hi) / 2 + 1) hi else bisL p lo ((lo + hi) / 2) else lo
termination_by hi - lo
decreasing_by
  · exact up_less h
  · exact down_less h
theorem bisL_stop {p : Nat → Bool} {lo hi : Nat} (h : ¬ lo < hi) : bisL p lo hi = lo := by rw [bisL, dif_neg h]
theorem bisL_up {p : Nat → Bool} {lo hi : Nat} (h : lo < hi) (hp : p ((lo + hi) / 2) = true) : bisL p lo hi = bisL p ((lo + hi) / 2 + 1) hi := by rw [bisL, dif_pos h, if_pos hp]
theorem bisL_down {p : Nat → Bool} {lo hi : Nat} (h : lo < hi) (hp : p ((lo + hi) / 2) = false) : bisL p lo hi = bisL p lo ((lo + hi) / 2) := by rw [bisL, dif_pos h, if_neg (by rw [hp]; exact Bool.false_ne_true)]
theorem bisL_bounds {p : Nat → Bool} : ∀ (n lo hi : Nat), hi - lo ≤ n → lo ≤ hi → lo ≤ bisL p lo hi ∧ bisL p lo hi ≤ hi
  | 0, lo, hi, hn, h => by rw [bisL_stop (Nat.not_lt.mpr (Nat.le_of_sub_eq_zero (Nat.le_zero.mp hn)))]; exact ⟨Nat.le_refl _, h⟩
  | n + 1, lo, hi, hn, h => by
    by_cases hl : lo < hi
    · cases hp : p ((lo + hi) / 2) with
      | true =>
        rw [bisL_up hl hp]
        have := bisL_bounds (p := p) n ((lo + hi) / 2 + 1) hi (Nat.le_of_lt_succ (Nat.lt_of_lt_of_le (up_less hl) hn)) (mid_lt hl)
        exact ⟨Nat.le_trans (Nat.le_succ_of_le (mid_ge hl)) this.1, this.2⟩
      | false =>
        rw [bisL_down hl hp]
        have := bisL_bounds (p := p) n lo ((lo + hi) / 2) (Nat.le_of_lt_succ (Nat.lt_of_lt_of_le (down_less hl) hn)) (mid_ge hl)
        exact ⟨this.1, Nat.le_trans this.2 (Nat.le_of_lt (mid_lt hl))⟩
    · rw [bisL_stop hl]; exact ⟨Nat.le_refl _, h⟩
theorem bisL_le {p : Nat → Bool} {n : Nat} : bisL p 0 n ≤ n := (bisL_bounds n 0 n (Nat.le_refl _) (Nat.zero_le _)).2
local macro_rules | `(tactic| walk_at $s:str) => if ["call ref", "call builtin:len", "subscriptTail", "exec While Compare cons nil"].contains s.getString then `(tactic| (refine stopHere ?_)) else Lean.Macro.throwUnsupported
namespace NBl
noncomputable def G (w : World) (a : Addr) (f : Addr) (oc9 : Value) (od9 : Option Addr) (fd : FuncData) (sl9 : Array (Option Value)) (x : PySem.Str) (t : Tok) (vs : List Value) (k : Nat) (ks : Nat → PySem.Str) (EK : List (Addr × Obj)) (mean : ExcName → Option Value) (mg : PySem.Str → Option Value) (mb : PySem.Str → Option Value) (dp : Nat) (un : Nat) (gd : Option (List Code)) (outer : List Env) (A₀ : Around) (base : Heap) (g : Heap) (L : Addr) (h₁ : Heap) (rest : List (Addr × Obj)) (s : Shared) (tk : Nat) : Prop :=
  (vs.length < 1000) → (∀ i v, vs[i]? = some v → Spec w f [v] [] 20 200 ((f, ⟨oc9, od9, .func fd, sl9⟩) :: EK) (fun r E' => E' = (f, ⟨oc9, od9, .func fd, sl9⟩) :: EK ∧ ∃ t, r = .str (ks i) t)) → (∀ q ∈ EK, a ≠ q.1) → (a ≠ f) → PlainH w 41 (PySem.Str.ofString "bisect_left") bd3 sc3 (.ref 40) [(PySem.Str.ofString "a", .ref a), (PySem.Str.ofString "x", .str x t), (PySem.Str.ofString "lo", .int 0 216), (PySem.Str.ofString "hi", .none), (PySem.Str.ofString "key", .ref f)] 30 300 (((a, listOf vs.toArray k) :: (f, ⟨oc9, od9, .func fd, sl9⟩) :: EK)) (fun r E' => E' = (a, listOf vs.toArray k) :: (f, ⟨oc9, od9, .func fd, sl9⟩) :: EK ∧ ∃ t', r = .int (bisL (fun i => decide ((ks i).cps.toList < x.cps.toList)) 0 vs.length : Nat) t') mean mg mb dp un gd outer A₀ base g L h₁ rest s tk
noncomputable abbrev D : Type := (World) × (Addr) × (Addr) × (Value) × (Option Addr) × (FuncData) × (Array (Option Value)) × (PySem.Str) × (Tok) × (List Value) × (Nat) × (Nat → PySem.Str) × (List (Addr × Obj)) × (ExcName → Option Value) × (PySem.Str → Option Value) × (PySem.Str → Option Value) × (Nat) × (Nat) × (Option (List Code)) × (List Env) × (Around) × (Heap) × (Heap) × (Addr) × (Heap) × (List (Addr × Obj)) × (Shared) × (Nat)
theorem ne : Nonempty D := ⟨⟨w0, 0, 0, .none, none, default, #[], default, 0, [], 0, fun _ => default, [], fun _ => none, fun _ => none, fun _ => none, 0, 0, none, [], {}, default, default, 0, default, [], {}, 0⟩⟩
noncomputable abbrev H (d : D) : Prop := G d.1 d.2.1 d.2.2.1 d.2.2.2.1 d.2.2.2.2.1 d.2.2.2.2.2.1 d.2.2.2.2.2.2.1 d.2.2.2.2.2.2.2.1 d.2.2.2.2.2.2.2.2.1 d.2.2.2.2.2.2.2.2.2.1 d.2.2.2.2.2.2.2.2.2.2.1 d.2.2.2.2.2.2.2.2.2.2.2.1 d.2.2.2.2.2.2.2.2.2.2.2.2.1 d.2.2.2.2.2.2.2.2.2.2.2.2.2.1 d.2.2.2.2.2.2.2.2.2.2.2.2.2.2.1 d.2.2.2.2.2.2.2.2.2.2.2.2.2.2.2.1 d.2.2.2.2.2.2.2.2.2.2.2.2.2.2.2.2.1 d.2.2.2.2.2.2.2.2.2.2.2.2.2.2.2.2.2.1 d.2.2.2.2.2.2.2.2.2.2.2.2.2.2.2.2.2.2.1 d.2.2.2.2.2.2.2.2.2.2.2.2.2.2.2.2.2.2.2.1 d.2.2.2.2.2.2.2.2.2.2.2.2.2.2.2.2.2.2.2.2.1 d.2.2.2.2.2.2.2.2.2.2.2.2.2.2.2.2.2.2.2.2.2.1 d.2.2.2.2.2.2.2.2.2.2.2.2.2.2.2.2.2.2.2.2.2.2.1 d.2.2.2.2.2.2.2.2.2.2.2.2.2.2.2.2.2.2.2.2.2.2.2.1 d.2.2.2.2.2.2.2.2.2.2.2.2.2.2.2.2.2.2.2.2.2.2.2.2.1 d.2.2.2.2.2.2.2.2.2.2.2.2.2.2.2.2.2.2.2.2.2.2.2.2.2.1 d.2.2.2.2.2.2.2.2.2.2.2.2.2.2.2.2.2.2.2.2.2.2.2.2.2.2.1 d.2.2.2.2.2.2.2.2.2.2.2.2.2.2.2.2.2.2.2.2.2.2.2.2.2.2.2
@[irreducible] noncomputable def d : D := @Classical.epsilon D ne fun d => ¬ H d
@[irreducible] noncomputable def w : World := d.1
@[irreducible] noncomputable def a : Addr := d.2.1
@[irreducible] noncomputable def f : Addr := d.2.2.1
@[irreducible] noncomputable def oc9 : Value := d.2.2.2.1
@[irreducible] noncomputable def od9 : Option Addr := d.2.2.2.2.1
@[irreducible] noncomputable def fd : FuncData := d.2.2.2.2.2.1
@[irreducible] noncomputable def sl9 : Array (Option Value) := d.2.2.2.2.2.2.1
@[irreducible] noncomputable def x : PySem.Str := d.2.2.2.2.2.2.2.1
@[irreducible] noncomputable def t : Tok := d.2.2.2.2.2.2.2.2.1
@[irreducible] noncomputable def vs : List Value := d.2.2.2.2.2.2.2.2.2.1
@[irreducible] noncomputable def k : Nat := d.2.2.2.2.2.2.2.2.2.2.1
@[irreducible] noncomputable def ks : Nat → PySem.Str := d.2.2.2.2.2.2.2.2.2.2.2.1
@[irreducible] noncomputable def EK : List (Addr × Obj) := d.2.2.2.2.2.2.2.2.2.2.2.2.1
@[irreducible] noncomputable def mean : ExcName → Option Value := d.2.2.2.2.2.2.2.2.2.2.2.2.2.1
@[irreducible] noncomputable def mg : PySem.Str → Option Value := d.2.2.2.2.2.2.2.2.2.2.2.2.2.2.1
@[irreducible] noncomputable def mb : PySem.Str → Option Value := d.2.2.2.2.2.2.2.2.2.2.2.2.2.2.2.1
@[irreducible] noncomputable def dp : Nat := d.2.2.2.2.2.2.2.2.2.2.2.2.2.2.2.2.1
@[irreducible] noncomputable def un : Nat := d.2.2.2.2.2.2.2.2.2.2.2.2.2.2.2.2.2.1
@[irreducible] noncomputable def gd : Option (List Code) := d.2.2.2.2.2.2.2.2.2.2.2.2.2.2.2.2.2.2.1
@[irreducible] noncomputable def outer : List Env := d.2.2.2.2.2.2.2.2.2.2.2.2.2.2.2.2.2.2.2.1
@[irreducible] noncomputable def A₀ : Around := d.2.2.2.2.2.2.2.2.2.2.2.2.2.2.2.2.2.2.2.2.1
@[irreducible] noncomputable def base : Heap := d.2.2.2.2.2.2.2.2.2.2.2.2.2.2.2.2.2.2.2.2.2.1
@[irreducible] noncomputable def g : Heap := d.2.2.2.2.2.2.2.2.2.2.2.2.2.2.2.2.2.2.2.2.2.2.1
@[irreducible] noncomputable def L : Addr := d.2.2.2.2.2.2.2.2.2.2.2.2.2.2.2.2.2.2.2.2.2.2.2.1
@[irreducible] noncomputable def h₁ : Heap := d.2.2.2.2.2.2.2.2.2.2.2.2.2.2.2.2.2.2.2.2.2.2.2.2.1
@[irreducible] noncomputable def rest : List (Addr × Obj) := d.2.2.2.2.2.2.2.2.2.2.2.2.2.2.2.2.2.2.2.2.2.2.2.2.2.1
@[irreducible] noncomputable def s : Shared := d.2.2.2.2.2.2.2.2.2.2.2.2.2.2.2.2.2.2.2.2.2.2.2.2.2.2.1
@[irreducible] noncomputable def tk : Nat := d.2.2.2.2.2.2.2.2.2.2.2.2.2.2.2.2.2.2.2.2.2.2.2.2.2.2.2
set_option maxRecDepth 100000 in
set_option maxHeartbeats 4000000 in
theorem core : mark PySem.Challenge.rw_us0019_01 K01 (G w a f oc9 od9 fd sl9 x t vs k ks EK mean mg mb dp un gd outer A₀ base g L h₁ rest s tk) := by
  k_fill
  unfold mark G PlainH
  (try dsimp only [pa3, bd3, sc3])
  intro hn2 hk ha haf
  intro B K T F N hR hE hsep hd hu
  simp only [List.cons_append] at N
  generalize hrest : EK ++ rest = R at N
  have haR : ∀ p ∈ R, p.1 ≠ a := by
    rw [← hrest]
    intro p hp
    rcases List.mem_append.mp hp with hp | hp
    · exact Ne.symm (ha p hp)
    · exact hsep p hp _ (.head _)
  have hsepE : ∀ p ∈ (a, listOf vs.toArray k) :: rest, ∀ q ∈ (f, ⟨oc9, od9, .func fd, sl9⟩) :: EK, p.1 ≠ q.1 := by
    intro p hp q hq
    rcases List.mem_cons.mp hp with rfl | hp
    · rcases List.mem_cons.mp hq with rfl | hq
      · exact haf
      · exact ha q hq
    · exact hsep p hp q (.tail _ hq)
  have C160 := codeHd160 K
  k_steps
  unfold Stop
  refine len_led N (.head _) (by omega) ?_
  intro t1 tk1
  k_steps
  unfold Stop
  rename Fr _ _ _ _ => F9
  rename News _ _ _ ((_, _) :: _) => N9
  refine While_inv (fun j m₁ news₁ => ∃ (lo hi : Nat) (t1 t2 : Tok), j = hi - lo ∧ lo ≤ hi ∧ hi ≤ vs.length ∧ bisL (fun i => decide ((ks i).cps.toList < x.cps.toList)) lo hi = bisL (fun i => decide ((ks i).cps.toList < x.cps.toList)) 0 vs.length ∧
    m₁ (PySem.Str.ofString "lo") = some (.int (lo : Int) t1) ∧ m₁ (PySem.Str.ofString "hi") = some (.int (hi : Int) t2) ∧ m₁ (PySem.Str.ofString "a") = some (.ref a) ∧ m₁ (PySem.Str.ofString "x") = some (.str x t) ∧ m₁ (PySem.Str.ofString "key") = some (.ref f) ∧ news₁ = (a, listOf vs.toArray k) :: (f, ⟨oc9, od9, .func fd, sl9⟩) :: R) (n₀ := vs.length) F9 N9 ?start ?turn
  case start =>
    refine ⟨0, vs.length, _, _, rfl, Nat.zero_le _, Nat.le_refl _, rfl, rfl, rfl, rfl, rfl, rfl, rfl⟩
  case turn =>
    rintro j m₁ news₁ h₁ tk₁ F₁ N₁ hI9
    try k_fold
    refine pack fun G9 hG9 => ?_
    obtain ⟨lo, hi, t1, t2, rfl, h1, h2, h3, j1, j2, j3, j4, j5, rfl⟩ := hI9
    refine hG9 ?_
    clear hG9
    clear F9 N9
    rw [nm1 j5, under (nm1 j4), under (under (nm1 j3)), under (under (under (nm1 j2))), under (under (under (under (nm1 j1))))] at F₁
    k_steps
    · unfold Stop
      rename Fr _ _ _ _ => F2
      rename News _ _ _ _ => N2
      have hlt : lo < hi := by omega
      have em : Int.fdiv ((lo : Int) + (hi : Int)) 2 = (((lo + hi) / 2 : Nat) : Int) := by rw [← fdivN]; simp
      have hm : (lo + hi) / 2 < vs.length := Nat.lt_of_lt_of_le (mid_lt hlt) h2
      rw [em]
      simp only [em] at F2
      refine item_led N2 (.head _) (by omega) (List.getElem?_eq_getElem hm) ?_
      k_steps
      unfold Stop
      refine spec_use (hk _ _ (List.getElem?_eq_getElem hm)) ((a, listOf vs.toArray k) :: rest) B F2 K N2 T rfl (by omega) (by omega) ?perm hsepE ?_
      case perm =>
        intro p hp
        rw [← hrest]
        simp only [List.cons_append, List.mem_cons, List.mem_append] at hp ⊢
        rcases hp with hp | hp | hp | hp
        · exact .inr (.inl hp)
        · exact .inr (.inr (.inl hp))
        · exact .inl hp
        · exact .inr (.inr (.inr hp))
      intro r E' h' tk' hPk1 F' N' _
      refine pack fun G9 hG9 => ?_
      obtain ⟨rfl, t', rfl⟩ := hPk1
      refine hG9 ?_
      clear hG9
      replace N' := news_sub N' (l' := (a, listOf vs.toArray k) :: (f, ⟨oc9, od9, .func fd, sl9⟩) :: R) (by
        intro p hp
        rw [← hrest] at hp
        simp only [List.cons_append, List.mem_cons, List.mem_append] at hp ⊢
        rcases hp with hp | hp | hp | hp
        · exact .inr (.inr (.inl hp))
        · exact .inl hp
        · exact .inr (.inl hp)
        · exact .inr (.inr (.inr hp)))
      clear F2 N2
      k_steps
      · rename List.lt _ _ => hlt2
        exact WhileStep.intro (n' := hi - ((lo + hi) / 2 + 1)) (by assumption) (by assumption) (up_less hlt) ⟨(lo + hi) / 2 + 1, hi, _, _, rfl, by omega, h2, (bisL_up (p := fun i => decide ((ks i).cps.toList < x.cps.toList)) hlt (decide_eq_true hlt2)).symm.trans h3, rfl, rfl, rfl, rfl, rfl, rfl⟩
      · rename ¬ (List.lt _ _) => hlt2
        exact WhileStep.intro (n' := (lo + hi) / 2 - lo) (by assumption) (by assumption) (down_less hlt) ⟨lo, (lo + hi) / 2, _, _, rfl, by omega, by omega, (bisL_down (p := fun i => decide ((ks i).cps.toList < x.cps.toList)) hlt (decide_eq_false hlt2)).symm.trans h3, rfl, rfl, rfl, rfl, rfl, rfl⟩
    · dsimp only
      refine Back.intro ((a, listOf vs.toArray k) :: (f, ⟨oc9, od9, .func fd, sl9⟩) :: EK) (by assumption) (news_sub (by assumption) (by rw [← hrest]; exact fun p hp => hp)) ⟨rfl, t1, ?_⟩ (NewOk.same rfl)
      rw [← h3, bisL_stop (by omega)]
theorem all (d : D) : H d := by
  refine eps_all ne H ?_ d
  have h := core
  unfold mark w a f oc9 od9 fd sl9 x t vs k ks EK mean mg mb dp un gd outer A₀ base g L h₁ rest s tk NBl.d at h
  exact h
end NBl
set_option maxRecDepth 100000 in
set_option maxHeartbeats 4000000 in
theorem bisect_left0 {w : World} {a f : Addr} {oc9 : Value} {od9 : Option Addr} {fd : FuncData} {sl9 : Array (Option Value)} {x : PySem.Str} {t : Tok} {vs : List Value} {k : Nat} {ks : Nat → PySem.Str} {EK : List (Addr × Obj)} (hn2 : vs.length < 1000)
    (hk : ∀ i v, vs[i]? = some v → Spec w f [v] [] 20 200 ((f, ⟨oc9, od9, .func fd, sl9⟩) :: EK) (fun r E' => E' = (f, ⟨oc9, od9, .func fd, sl9⟩) :: EK ∧ ∃ t, r = .str (ks i) t)) (ha : ∀ q ∈ EK, a ≠ q.1) (haf : a ≠ f) : mark PySem.Challenge.rw_us0019_01 K01
   (Spec w 41 [.ref a, .str x t] [(PySem.Str.ofString "key", .ref f)] 30 300 ((a, listOf vs.toArray k) :: (f, ⟨oc9, od9, .func fd, sl9⟩) :: EK) fun r E' => E' = (a, listOf vs.toArray k) :: (f, ⟨oc9, od9, .func fd, sl9⟩) :: EK ∧ ∃ t', r = .int (bisL (fun i => decide ((ks i).cps.toList < x.cps.toList)) 0 vs.length : Nat) t') := by
  ((k_fill; unfold mark; (k_dflt (refine' spec_plain ?ho ?hcd ?hd1 ?hb ?hl ?hco ?hg ?hk ?hce ?_; (case ho => k_is); (case hcd => k_is); (case hd1 => decide); (case hb => intro _ KX; first | exact BindsTo.of_eq rfl | exact binds_K KX rfl (by k_is) rfl rfl rfl); (case hl => exact locs rfl); (case hco => exact rfl); (case hg => exact rfl); (case hk => exact rfl); (case hce => decide)); (try dsimp only [pa3, bd3, sc3]))))
  intro mean mg mb dp un gd outer A₀ base g L h₁ rest s tk
  exact NBl.all ⟨w, a, f, oc9, od9, fd, sl9, x, t, vs, k, ks, EK, mean, mg, mb, dp, un, gd, outer, A₀, base, g, L, h₁, rest, s, tk⟩ hn2 hk ha haf
theorem bisect_left {w : World} {a f : Addr} {fo : Obj} {fd : FuncData} {x : PySem.Str} {t : Tok} {vs : List Value} {k n : Nat} {ks : Nat → PySem.Str} {EK : List (Addr × Obj)} (hn : vs.length = n) (hn2 : n < 1000)
    (hk : ∀ i v, vs[i]? = some v → Spec w f [v] [] 20 200 ((f, fo) :: EK) (fun r E' => E' = (f, fo) :: EK ∧ ∃ t, r = .str (ks i) t)) (ha : ∀ q ∈ EK, a ≠ q.1) (haf : a ≠ f) (hfo : fo.data = .func fd) : mark PySem.Challenge.rw_us0019_01 K01
   (Spec w 41 [.ref a, .str x t] [(PySem.Str.ofString "key", .ref f)] 30 300 ((a, listOf vs.toArray k) :: (f, fo) :: EK) fun r E' => E' = (a, listOf vs.toArray k) :: (f, fo) :: EK ∧ ∃ t', r = .int (bisL (fun i => decide ((ks i).cps.toList < x.cps.toList)) 0 n : Nat) t') := by
  obtain ⟨oc9, od9, dt9, sl9⟩ := fo
  simp only at hfo
  subst hfo
  subst hn
  exact bisect_left0 hn2 hk ha haf
end
section
set_option autoImplicit false
set_option tactic.hygienic false
noncomputable def lcp : List Nat → List Nat → Nat
  | a :: r, b :: q => if a = b then lcp r q + 1 else 0
  | _, _ => 0
theorem lcp_comm : ∀ a b : List Nat, lcp a b = lcp b a
  | [], [] => rfl
  | [], _ :: _ => rfl
  | _ :: _, [] => rfl
  | a :: r, b :: q => by
    simp only [lcp]
    by_cases h : a = b
    · rw [if_pos h, if_pos h.symm, lcp_comm r q]
    · rw [if_neg h, if_neg (fun e => h e.symm)]
theorem lcp_le_left : ∀ a b : List Nat, lcp a b ≤ a.length
  | [], [] => Nat.le_refl _
  | [], _ :: _ => Nat.le_refl _
  | _ :: _, [] => Nat.zero_le _
  | a :: r, b :: q => by
    simp only [lcp]
    split
    · have := lcp_le_left r q; simp only [List.length_cons]; omega
    · exact Nat.zero_le _
theorem lcp_le_right (a b : List Nat) : lcp a b ≤ b.length := by rw [lcp_comm]; exact lcp_le_left b a
theorem cons_lt {a b : Nat} {r q : List Nat} : (a :: r) < (b :: q) ↔ a < b ∨ (a = b ∧ r < q) := List.cons_lt_cons_iff
theorem lcp_low : ∀ {x y z : List Nat}, x < y → y < z → lcp x z ≤ lcp y z
  | [], _, _, _, _ => by simp [lcp]
  | _ :: _, [], _, h, _ => absurd h (List.not_lt_nil _)
  | _ :: _, _ :: _, [], _, h => absurd h (List.not_lt_nil _)
  | a :: r, b :: q, c :: p, h1, h2 => by
    rw [cons_lt] at h1 h2
    simp only [lcp]
    by_cases hac : a = c
    · subst hac
      rcases h1 with h1 | ⟨rfl, h1⟩
      · rcases h2 with h2 | ⟨rfl, h2⟩ <;> omega
      · rcases h2 with h2 | ⟨_, h2⟩
        · omega
        · rw [if_pos rfl, if_pos rfl]
          have := lcp_low h1 h2
          omega
    · rw [if_neg hac]; exact Nat.zero_le _
theorem lcp_high : ∀ {x y z : List Nat}, x < y → y < z → lcp x z ≤ lcp x y
  | [], _, _, _, _ => by simp [lcp]
  | _ :: _, [], _, h, _ => absurd h (List.not_lt_nil _)
  | _ :: _, _ :: _, [], _, h => absurd h (List.not_lt_nil _)
  | a :: r, b :: q, c :: p, h1, h2 => by
    rw [cons_lt] at h1 h2
    simp only [lcp]
    by_cases hac : a = c
    · subst hac
      rcases h1 with h1 | ⟨rfl, h1⟩
      · rcases h2 with h2 | ⟨rfl, h2⟩ <;> omega
      · rcases h2 with h2 | ⟨_, h2⟩
        · omega
        · rw [if_pos rfl, if_pos rfl]
          have := lcp_high h1 h2
          omega
    · rw [if_neg hac]; exact Nat.zero_le _
noncomputable def Srt (row : List Nat) (o : List Nat) (p : Nat) : Prop := o.Pairwise (fun a b => row.drop a < row.drop b) ∧ (∀ x, x ∈ o ↔ x < p) ∧ o.length = p
theorem Srt.nil (row : List Nat) : Srt row [] 0 := ⟨.nil, by simp, rfl⟩
theorem bisL_spec {p : Nat → Bool} : ∀ (k lo hi n : Nat), hi - lo ≤ k → lo ≤ hi → hi ≤ n → (∀ i j, i ≤ j → j < n → p j = true → p i = true) → (∀ i, i < lo → p i = true) → (∀ i, hi ≤ i → i < n → p i = false) →
    (∀ i, i < bisL p lo hi → p i = true) ∧ ∀ i, bisL p lo hi ≤ i → i < n → p i = false
  | 0, lo, hi, n, hk, hlh, hn, _, hl, hh => by
    rw [bisL_stop (by omega)]
    exact ⟨hl, fun i hi' => hh i (by omega)⟩
  | k + 1, lo, hi, n, hk, hlh, hn, mono, hl, hh => by
    by_cases h : lo < hi
    · cases hp : p ((lo + hi) / 2) with
      | true =>
        rw [bisL_up h hp]
        exact bisL_spec k _ _ n (Nat.le_of_lt_succ (Nat.lt_of_lt_of_le (up_less h) hk)) (mid_lt h) hn mono (fun i hi' => mono i _ (Nat.le_of_lt_succ hi') (Nat.lt_of_lt_of_le (mid_lt h) hn) hp) hh
      | false =>
        rw [bisL_down h hp]
        refine bisL_spec k _ _ n (Nat.le_of_lt_succ (Nat.lt_of_lt_of_le (down_less h) hk)) (mid_ge h) (Nat.le_trans (Nat.le_of_lt (mid_lt h)) hn) mono hl (fun i h1 h2 => ?_)
        cases hpi : p i with
        | false => rfl
        | true => have := mono _ i h1 h2 hpi; rw [hp] at this; cases this
    · rw [bisL_stop h]
      exact ⟨hl, fun i hi' => hh i (by omega)⟩
theorem bisL_cut {p : Nat → Bool} {n : Nat} (mono : ∀ i j, i ≤ j → j < n → p j = true → p i = true) : (∀ i, i < bisL p 0 n → p i = true) ∧ ∀ i, bisL p 0 n ≤ i → i < n → p i = false :=
  bisL_spec n 0 n n (by omega) (by omega) (Nat.le_refl _) mono (by omega) (by omega)
theorem srt_get {row o : List Nat} {p : Nat} (h : Srt row o p) {i j : Nat} (hij : i < j) (hj : j < o.length) : row.drop (o.getD i 0) < row.drop (o.getD j 0) := by
  have := List.pairwise_iff_getElem.mp h.1 i j (by omega) hj hij
  simpa [List.getD_eq_getElem?_getD, List.getElem?_eq_getElem (show i < o.length by omega), List.getElem?_eq_getElem hj] using this
theorem lt_or_gt {a b : List Nat} (h : a ≠ b) : a < b ∨ b < a := by
  rcases Decidable.em (a < b) with h1 | h1
  · exact .inl h1
  · exact .inr (Std.lt_of_le_of_ne (Std.not_lt.mp h1) (Ne.symm h))
theorem lt_tr {a b c : List Nat} (h1 : a < b) (h2 : b < c) : a < c := List.lt_trans h1 h2
noncomputable def isBelow (row o : List Nat) (place : Nat) (i : Nat) : Bool := decide (row.drop (o.getD i 0) < row.drop place)
theorem drop_ne {row : List Nat} {a b : Nat} (h : a < b) (hb : b ≤ row.length) : row.drop a ≠ row.drop b := fun e => by
  have := congrArg List.length e
  simp only [List.length_drop] at this
  omega
theorem isBelow_mono {row o : List Nat} {p : Nat} (h : Srt row o p) (place : Nat) : ∀ i j, i ≤ j → j < o.length → isBelow row o place j = true → isBelow row o place i = true := fun i j hij hj hu => by
  rcases Nat.lt_or_eq_of_le hij with hij | rfl
  · exact decide_eq_true (lt_tr (srt_get h hij hj) (of_decide_eq_true hu))
  · exact hu
noncomputable def bestOf (row : List Nat) (place : Nat) (cands : List Nat) : Nat × Nat :=
  cands.foldl (fun sb o => if lcp (row.drop o) (row.drop place) > sb.1 then (lcp (row.drop o) (row.drop place), place - o) else sb) (0, 0)
theorem best_fold (row : List Nat) (place : Nat) : ∀ (cands : List Nat) (sb : Nat × Nat),
    sb.1 ≤ (cands.foldl (fun sb o => if lcp (row.drop o) (row.drop place) > sb.1 then (lcp (row.drop o) (row.drop place), place - o) else sb) sb).1 ∧
    (∀ o ∈ cands, lcp (row.drop o) (row.drop place) ≤ (cands.foldl (fun sb o => if lcp (row.drop o) (row.drop place) > sb.1 then (lcp (row.drop o) (row.drop place), place - o) else sb) sb).1) ∧
    (cands.foldl (fun sb o => if lcp (row.drop o) (row.drop place) > sb.1 then (lcp (row.drop o) (row.drop place), place - o) else sb) sb = sb ∨
      ∃ o ∈ cands, 0 < lcp (row.drop o) (row.drop place) ∧ cands.foldl (fun sb o => if lcp (row.drop o) (row.drop place) > sb.1 then (lcp (row.drop o) (row.drop place), place - o) else sb) sb = (lcp (row.drop o) (row.drop place), place - o))
  | [], sb => ⟨Nat.le_refl _, by simp, .inl rfl⟩
  | c :: cs, sb => by
    simp only [List.foldl_cons]
    by_cases h : lcp (row.drop c) (row.drop place) > sb.1
    · rw [if_pos h]
      obtain ⟨h1, h2, h3⟩ := best_fold row place cs (lcp (row.drop c) (row.drop place), place - c)
      refine ⟨by simp only at h1; omega, fun o ho => ?_, .inr ?_⟩
      · rcases List.mem_cons.mp ho with rfl | ho
        · exact h1
        · exact h2 o ho
      · rcases h3 with h3 | ⟨o, ho, h4, h5⟩
        · exact ⟨c, .head _, by omega, h3⟩
        · exact ⟨o, .tail _ ho, h4, h5⟩
    · rw [if_neg h]
      obtain ⟨h1, h2, h3⟩ := best_fold row place cs sb
      refine ⟨h1, fun o ho => ?_, ?_⟩
      · rcases List.mem_cons.mp ho with rfl | ho
        · omega
        · exact h2 o ho
      · rcases h3 with h3 | ⟨o, ho, h4, h5⟩
        · exact .inl h3
        · exact .inr ⟨o, .tail _ ho, h4, h5⟩
noncomputable def IsPiece (row : List Nat) (place : Nat) (pc : Nat × Nat) : Prop :=
  (∀ o, o < place → lcp (row.drop o) (row.drop place) ≤ pc.1) ∧ ((pc.1 = 0 ∧ pc.2 = 0) ∨ (0 < pc.1 ∧ 1 ≤ pc.2 ∧ pc.2 ≤ place ∧ lcp (row.drop (place - pc.2)) (row.drop place) = pc.1))
noncomputable def cutAt (row o : List Nat) (place : Nat) : Nat := bisL (isBelow row o place) 0 o.length
noncomputable def nearO (row o : List Nat) (place : Nat) : List Nat := (o.drop (cutAt row o place - 1)).take (cutAt row o place + 1 - (cutAt row o place - 1))
theorem near_mem {row o : List Nat} {place x : Nat} (h : x ∈ nearO row o place) : x ∈ o := List.mem_of_mem_drop (List.mem_of_mem_take h)
theorem near_has {row o : List Nat} {place i : Nat} (hi : i < o.length) (h : i + 1 = cutAt row o place ∨ i = cutAt row o place) : o.getD i 0 ∈ nearO row o place := by
  unfold nearO
  generalize cutAt row o place = c at *
  have hle : c - 1 ≤ i := by
    rcases h with rfl | rfl
    · exact Nat.le_refl _
    · exact Nat.sub_le _ _
  have hlt : i < c + 1 := by
    rcases h with rfl | rfl
    · exact Nat.lt_succ_of_lt (Nat.lt_succ_self i)
    · exact Nat.lt_succ_self i
  rw [List.mem_iff_getElem?]
  refine ⟨i - (c - 1), ?_⟩
  rw [List.getElem?_take, if_pos (Nat.sub_lt_sub_right hle hlt), List.getElem?_drop, Nat.add_sub_cancel' hle, List.getD_eq_getElem?_getD, List.getElem?_eq_getElem hi]
  rfl
theorem piece_at {row o : List Nat} {place : Nat} (h : Srt row o place) (hp : place < row.length) : IsPiece row place (bestOf row place (nearO row o place)) := by
  obtain ⟨b1, b2, b3⟩ := best_fold row place (nearO row o place) (0, 0)
  obtain ⟨c1, c2⟩ := bisL_cut (isBelow_mono h place)
  refine ⟨fun x hx => ?_, ?_⟩
  · obtain ⟨i, hi, rfl⟩ : ∃ i, i < o.length ∧ o.getD i 0 = x := by
      obtain ⟨i, hi, e⟩ := List.mem_iff_getElem.mp ((h.2.1 x).mpr hx)
      exact ⟨i, hi, by rw [List.getD_eq_getElem?_getD, List.getElem?_eq_getElem hi]; exact e⟩
    rcases Nat.lt_or_ge i (cutAt row o place) with hc | hc
    · have hu : row.drop (o.getD i 0) < row.drop place := of_decide_eq_true (c1 i hc)
      by_cases he : i + 1 = cutAt row o place
      · exact b2 _ (near_has hi (.inl he))
      · have hcl : cutAt row o place ≤ o.length := bisL_le
        have hp0 : 0 < cutAt row o place := Nat.lt_of_le_of_lt (Nat.zero_le i) hc
        have hs1 : cutAt row o place - 1 < cutAt row o place := Nat.sub_lt hp0 (by decide)
        have hs2 := Nat.lt_of_lt_of_le hs1 hcl
        have hm := near_has (row := row) (o := o) (place := place) (i := cutAt row o place - 1) hs2 (.inl (Nat.sub_add_cancel hp0))
        have hu2 : row.drop (o.getD (cutAt row o place - 1) 0) < row.drop place := of_decide_eq_true (c1 _ hs1)
        exact Nat.le_trans (lcp_low (srt_get h (Nat.lt_sub_of_add_lt (Nat.lt_of_le_of_ne hc he)) hs2) hu2) (b2 _ hm)
    · have hnu : ∀ j, cutAt row o place ≤ j → j < o.length → row.drop place < row.drop (o.getD j 0) := fun j h1 h2 => by
        have hnot : ¬ row.drop (o.getD j 0) < row.drop place := of_decide_eq_false (c2 j h1 h2)
        have hlt : o.getD j 0 < place := (h.2.1 _).mp (by rw [List.getD_eq_getElem?_getD, List.getElem?_eq_getElem h2]; exact List.getElem_mem h2)
        rcases lt_or_gt (drop_ne hlt (Nat.le_of_lt hp)) with h3 | h3
        · exact absurd h3 hnot
        · exact h3
      by_cases he : i = cutAt row o place
      · exact b2 _ (near_has hi (.inr he))
      · have hm := near_has (row := row) (o := o) (place := place) (i := cutAt row o place) (by omega) (.inr rfl)
        have := lcp_high (hnu _ (Nat.le_refl _) (by omega)) (srt_get h (show cutAt row o place < i by omega) hi)
        rw [lcp_comm (row.drop (o.getD i 0))]
        refine Nat.le_trans this ?_
        rw [lcp_comm]
        exact b2 _ hm
  · rcases b3 with b3 | ⟨x, hx, h0, b3⟩
    · exact .inl ⟨congrArg Prod.fst b3, congrArg Prod.snd b3⟩
    · have hlt := (h.2.1 x).mp (near_mem hx)
      refine .inr ?_
      unfold bestOf
      rw [b3]
      exact ⟨h0, Nat.sub_pos_of_lt hlt, Nat.sub_le place x, by show lcp (row.drop (place - (place - x))) _ = _; rw [Nat.sub_sub_self (Nat.le_of_lt hlt)]⟩
end
section
set_option autoImplicit false
noncomputable def isNotAbove (row o : List Nat) (place : Nat) (i : Nat) : Bool := !decide (row.drop place < row.drop (o.getD i 0))
noncomputable def insO (row o : List Nat) (place : Nat) : List Nat := o.take (bisL (isNotAbove row o place) 0 o.length) ++ place :: o.drop (bisL (isNotAbove row o place) 0 o.length)
theorem isNotAbove_mono {row o : List Nat} {p : Nat} (h : Srt row o p) (place : Nat) : ∀ i j, i ≤ j → j < o.length → isNotAbove row o place j = true → isNotAbove row o place i = true := fun i j hij hj hu => by
  rcases Nat.lt_or_eq_of_le hij with hij | rfl
  · unfold isNotAbove at *
    rw [Bool.not_eq_true', decide_eq_false_iff_not] at *
    exact fun h1 => hu (lt_tr h1 (srt_get h hij hj))
  · exact hu
theorem ins_srt {row o : List Nat} {p : Nat} (h : Srt row o p) (hp : p < row.length) : Srt row (insO row o p) (p + 1) := by
  obtain ⟨c1, c2⟩ := bisL_cut (isNotAbove_mono h p)
  have hle : bisL (isNotAbove row o p) 0 o.length ≤ o.length := bisL_le
  unfold insO
  generalize bisL (isNotAbove row o p) 0 o.length = c at *
  have low : ∀ x ∈ o.take c, row.drop x < row.drop p := fun x hx => by
    obtain ⟨i, hi, e⟩ := List.mem_iff_getElem.mp hx
    rw [List.length_take] at hi
    have h1 := c1 i (by omega)
    unfold isNotAbove at h1
    rw [List.getElem_take] at e
    rw [List.getD_eq_getElem?_getD, List.getElem?_eq_getElem (by omega), Option.getD_some, e, Bool.not_eq_true', decide_eq_false_iff_not] at h1
    have hlt := (h.2.1 x).mp (List.mem_of_mem_take hx)
    rcases lt_or_gt (drop_ne hlt (Nat.le_of_lt hp)) with h3 | h3
    · exact h3
    · exact absurd h3 h1
  have high : ∀ x ∈ o.drop c, row.drop p < row.drop x := fun x hx => by
    obtain ⟨i, hi, e⟩ := List.mem_iff_getElem.mp hx
    rw [List.length_drop] at hi
    have h1 := c2 (c + i) (by omega) (by omega)
    unfold isNotAbove at h1
    rw [List.getElem_drop] at e
    rw [List.getD_eq_getElem?_getD, List.getElem?_eq_getElem (by omega), Option.getD_some, e, Bool.not_eq_false', decide_eq_true_iff] at h1
    exact h1
  refine ⟨?_, fun x => ?_, ?_⟩
  · have hs := h.1
    rw [← List.take_append_drop c o, List.pairwise_append] at hs
    rw [List.pairwise_append]
    refine ⟨hs.1, ?_, fun a ha b hb => ?_⟩
    · rw [List.pairwise_cons]
      exact ⟨fun b hb => high b hb, hs.2.1⟩
    · rcases List.mem_cons.mp hb with rfl | hb
      · exact low a ha
      · exact hs.2.2 a ha b hb
  · have : x ∈ o ↔ x ∈ o.take c ∨ x ∈ o.drop c := by rw [← List.mem_append, List.take_append_drop]
    rw [List.mem_append, List.mem_cons]
    have h2 := h.2.1 x
    constructor
    · rintro (h3 | rfl | h3)
      · have := h2.mp (this.mpr (.inl h3)); omega
      · omega
      · have := h2.mp (this.mpr (.inr h3)); omega
    · intro h3
      by_cases h4 : x = p
      · exact .inr (.inl h4)
      · rcases this.mp (h2.mpr (by omega)) with h5 | h5
        · exact .inl h5
        · exact .inr (.inr h5)
  · have := h.2.2
    rw [List.length_append, List.length_cons, List.length_take, List.length_drop]
    omega
inductive Pieces (row : List Nat) : List (Nat × Nat) → Nat → Prop
  | nil : Pieces row [] 0
  | snoc {ps : List (Nat × Nat)} {q : Nat} {pc : Nat × Nat} (h : Pieces row ps q) (hq : q < row.length) (hp : IsPiece row q pc) : Pieces row (ps ++ [pc]) (q + max 1 pc.1)
theorem piece_fits {row : List Nat} {q : Nat} {pc : Nat × Nat} (hq : q < row.length) (hp : IsPiece row q pc) : q + max 1 pc.1 ≤ row.length := by
  rcases hp.2 with ⟨h, _⟩ | ⟨_, _, _, h⟩
  · rw [h]; omega
  · have := lcp_le_right (row.drop (q - pc.2)) (row.drop q)
    rw [h, List.length_drop] at this
    omega
theorem Pieces.le {row : List Nat} {ps : List (Nat × Nat)} {q : Nat} (h : Pieces row ps q) : q ≤ row.length := by
  cases h with
  | nil => omega
  | snoc h hq hp => exact piece_fits hq hp
theorem Pieces.len {row : List Nat} {ps : List (Nat × Nat)} {q : Nat} (h : Pieces row ps q) : ps.length ≤ q := by
  induction h with
  | nil => exact Nat.le_refl _
  | snoc h hq hp ih => rw [List.length_append, List.length_singleton]; omega
end
section
set_option autoImplicit false
set_option tactic.hygienic false
theorem le_lcp : ∀ {a b : List Nat} {m : Nat}, m ≤ a.length → m ≤ b.length → (m ≤ lcp a b ↔ a.take m = b.take m)
  | _, _, 0, _, _ => by simp
  | [], _, m + 1, h, _ => by simp at h
  | _ :: _, [], m + 1, _, h => by simp at h
  | x :: a, y :: b, m + 1, h1, h2 => by
    simp only [lcp, List.take_succ_cons, List.cons.injEq]
    by_cases h : x = y
    · rw [if_pos h, Nat.succ_le_succ_iff, le_lcp (by simpa using h1) (by simpa using h2)]
      simp [h]
    · rw [if_neg h]
      simp [h]
noncomputable def bestLen (row : List Nat) (p : Nat) : Nat := (List.range p).foldl (fun b o => max b (lcp (row.drop o) (row.drop p))) 0
theorem foldl_max (f : Nat → Nat) : ∀ (l : List Nat) (b : Nat), b ≤ l.foldl (fun b o => max b (f o)) b ∧ (∀ o ∈ l, f o ≤ l.foldl (fun b o => max b (f o)) b) ∧ (l.foldl (fun b o => max b (f o)) b = b ∨ ∃ o ∈ l, l.foldl (fun b o => max b (f o)) b = f o)
  | [], b => ⟨Nat.le_refl _, by simp, .inl rfl⟩
  | c :: cs, b => by
    simp only [List.foldl_cons]
    obtain ⟨h1, h2, h3⟩ := foldl_max f cs (max b (f c))
    refine ⟨Nat.le_trans (Nat.le_max_left _ _) h1, fun o ho => ?_, ?_⟩
    · rcases List.mem_cons.mp ho with rfl | ho
      · exact Nat.le_trans (Nat.le_max_right _ _) h1
      · exact h2 o ho
    · rcases h3 with h3 | ⟨o, ho, h3⟩
      · by_cases h : f c ≤ b
        · exact .inl (h3.trans (Nat.max_eq_left h))
        · exact .inr ⟨c, .head _, h3.trans (Nat.max_eq_right (Nat.le_of_lt (Nat.lt_of_not_le h)))⟩
      · exact .inr ⟨o, .tail _ ho, h3⟩
theorem best_ge {row : List Nat} {o p : Nat} (h : o < p) : lcp (row.drop o) (row.drop p) ≤ bestLen row p := (foldl_max (fun o => lcp (row.drop o) (row.drop p)) _ 0).2.1 o (List.mem_range.mpr h)
theorem best_is (row : List Nat) (p : Nat) : bestLen row p = 0 ∨ ∃ o, o < p ∧ bestLen row p = lcp (row.drop o) (row.drop p) := by
  rcases (foldl_max (fun o => lcp (row.drop o) (row.drop p)) (List.range p) 0).2.2 with h | ⟨o, ho, h⟩
  · exact .inl h
  · exact .inr ⟨o, List.mem_range.mp ho, h⟩
theorem best_le (row : List Nat) (p : Nat) : bestLen row p ≤ row.length - p := by
  rcases best_is row p with h | ⟨o, _, h⟩
  · omega
  · have := lcp_le_right (row.drop o) (row.drop p)
    rw [List.length_drop] at this
    omega
theorem piece_best {row : List Nat} {p : Nat} {pc : Nat × Nat} (h : IsPiece row p pc) : pc.1 = bestLen row p := by
  apply Nat.le_antisymm
  · rcases h.2 with ⟨h0, _⟩ | ⟨_, h1, h2, h3⟩
    · omega
    · rw [← h3]; exact best_ge (by omega)
  · rcases best_is row p with h0 | ⟨o, ho, h0⟩
    · omega
    · rw [h0]; exact h.1 o ho
noncomputable def reachE (row : List Nat) (p : Nat) : Nat := p + max 1 (bestLen row p)
theorem reach_gt (row : List Nat) (p : Nat) : p < reachE row p := by unfold reachE; omega
theorem reach_le {row : List Nat} {p : Nat} (h : p < row.length) : reachE row p ≤ row.length := by have := best_le row p; unfold reachE; omega
theorem reach_mono {row : List Nat} {p q : Nat} (h : p ≤ q) (hq : q < row.length) : reachE row p ≤ reachE row q := by
  rcases Nat.eq_or_lt_of_le h with rfl | h
  · exact Nat.le_refl _
  · have hq1 : q + 1 ≤ reachE row q := Nat.add_le_add_left (Nat.le_max_left 1 _) q
    by_cases hs : p + bestLen row p ≤ q + 1
    · refine Nat.le_trans ?_ hq1
      unfold reachE
      rcases Nat.le_total 1 (bestLen row p) with h1 | h1
      · rw [Nat.max_eq_right h1]; exact hs
      · rw [Nat.max_eq_left h1]; exact Nat.succ_le_succ (Nat.le_of_lt h)
    · rcases best_is row p with h0 | ⟨o, ho, h0⟩
      · rw [h0] at hs; exact absurd (Nat.le_succ_of_le (Nat.le_of_lt h)) hs
      · have hb := best_le row p
        obtain ⟨d, rfl⟩ := Nat.exists_eq_add_of_le (Nat.le_of_lt h)
        have hbo : bestLen row p ≤ row.length - o := Nat.le_trans hb (Nat.sub_le_sub_left (Nat.le_of_lt ho) _)
        have h1 : (row.drop o).take (bestLen row p) = (row.drop p).take (bestLen row p) := (le_lcp (by rw [List.length_drop]; exact hbo) (by rw [List.length_drop]; exact hb)).mp (Nat.le_of_eq h0)
        have h2 : (row.drop (o + d)).take (bestLen row p - d) = (row.drop (p + d)).take (bestLen row p - d) := by
          have := congrArg (List.drop d) h1
          rw [List.drop_take, List.drop_take, List.drop_drop, List.drop_drop] at this
          exact this
        have sb : ∀ {x : Nat}, bestLen row p ≤ row.length - x → bestLen row p - d ≤ (row.drop (x + d)).length := fun {x} hx => by
          rw [List.length_drop, ← Nat.sub_sub]
          exact Nat.sub_le_sub_right hx d
        have h3 := (le_lcp (a := row.drop (o + d)) (b := row.drop (p + d)) (m := bestLen row p - d) (sb hbo) (sb hb)).mpr h2
        have h4 := best_ge (row := row) (show o + d < p + d from Nat.add_lt_add_right ho d)
        unfold reachE
        omega
noncomputable def IsFar (row : List Nat) (p e : Nat) : Prop := e = p + 1 ∨ (p + 2 ≤ e ∧ e ≤ row.length ∧ ∃ o, o < p ∧ (row.drop o).take (e - p) = (row.drop p).take (e - p))
theorem far_le {row : List Nat} {p e : Nat} (h : IsFar row p e) : p < e ∧ e ≤ reachE row p := by
  rcases h with rfl | ⟨h1, h2, o, ho, h3⟩
  · exact ⟨Nat.lt_succ_self p, Nat.add_le_add_left (Nat.le_max_left 1 _) p⟩
  · obtain ⟨k, rfl⟩ := Nat.exists_eq_add_of_le (Nat.le_trans (Nat.le_add_right p 2) h1)
    rw [Nat.add_sub_cancel_left] at h3
    have hk : k ≤ row.length - p := Nat.le_sub_of_add_le' h2
    have a := (le_lcp (by rw [List.length_drop]; exact Nat.le_trans hk (Nat.sub_le_sub_left (Nat.le_of_lt ho) _)) (by rw [List.length_drop]; exact hk)).mpr h3
    exact ⟨Nat.lt_of_lt_of_le (Nat.lt_add_of_pos_right (by decide)) h1, Nat.add_le_add_left (Nat.le_trans (Nat.le_trans a (best_ge (row := row) ho)) (Nat.le_max_right 1 _)) p⟩
theorem far_reach {row : List Nat} {p : Nat} (hp : p < row.length) : IsFar row p (reachE row p) := by
  unfold reachE
  have hb := best_le row p
  rcases best_is row p with h0 | ⟨o, ho, h0⟩
  · exact .inl (by rw [h0]; rfl)
  · by_cases h1 : bestLen row p ≤ 1
    · exact .inl (by rw [Nat.max_eq_left h1])
    · rw [Nat.max_eq_right (Nat.le_of_lt (Nat.lt_of_not_le h1))]
      refine .inr ⟨Nat.add_le_add_left (Nat.lt_of_not_le h1) p, Nat.add_le_of_le_sub' (Nat.le_of_lt hp) hb, o, ho, ?_⟩
      rw [Nat.add_sub_cancel_left]
      exact (le_lcp (by rw [List.length_drop]; exact Nat.le_trans hb (Nat.sub_le_sub_left (Nat.le_of_lt ho) _)) (by rw [List.length_drop]; exact hb)).mp (Nat.le_of_eq h0)
noncomputable def cutsFrom (row : List Nat) (p : Nat) : List Nat := if h : p < row.length then reachE row p :: cutsFrom row (reachE row p) else []
termination_by row.length - p
decreasing_by have := reach_gt row p; omega
theorem cuts_step {row : List Nat} {p : Nat} (h : p < row.length) : cutsFrom row p = reachE row p :: cutsFrom row (reachE row p) := by rw [cutsFrom, dif_pos h]
theorem cuts_stop {row : List Nat} {p : Nat} (h : ¬ p < row.length) : cutsFrom row p = [] := by rw [cutsFrom, dif_neg h]
noncomputable def sumTo (ps : List (Nat × Nat)) : Nat := (ps.map fun pc => max 1 pc.1).sum
theorem pieces_cuts {row : List Nat} {ps : List (Nat × Nat)} {q : Nat} (h : Pieces row ps q) : sumTo ps = q ∧ cutsFrom row 0 = (List.range ps.length).map (fun k => sumTo (ps.take (k + 1))) ++ cutsFrom row q := by
  induction h with
  | nil => exact ⟨rfl, rfl⟩
  | @snoc ps q pc h hq hp ih =>
    have e : q + max 1 pc.1 = reachE row q := by rw [piece_best hp]; rfl
    have hs : sumTo (ps ++ [pc]) = q + max 1 pc.1 := by
      unfold sumTo at *
      rw [List.map_append, List.sum_append, ih.1]; simp
    refine ⟨hs, ?_⟩
    rw [ih.2, cuts_step hq, List.length_append, List.length_singleton, List.range_succ, List.map_append, List.append_assoc]
    congr 1
    · apply List.map_congr_left
      intro k hk
      rw [List.take_append_of_le_length (by have := List.mem_range.mp hk; omega)]
    · simp only [List.map_cons, List.map_nil, List.singleton_append]
      rw [List.take_of_length_le (by simp), hs, e]
theorem pieces_cuts_all {row : List Nat} {ps : List (Nat × Nat)} (h : Pieces row ps row.length) : cutsFrom row 0 = (List.range ps.length).map (fun k => sumTo (ps.take (k + 1))) := by
  rw [(pieces_cuts h).2, cuts_stop (by omega), List.append_nil]
theorem lcp_more : ∀ {a b : List Nat} {k c : Nat}, k ≤ lcp a b → a[k]? = some c → b[k]? = some c → k + 1 ≤ lcp a b
  | [], _, _, _, _, h, _ => by simp at h
  | _ :: _, [], _, _, _, _, h => by simp at h
  | x :: a, y :: b, 0, c, _, h1, h2 => by
    simp only [List.getElem?_cons_zero, Option.some.injEq] at h1 h2
    simp only [lcp, h1, h2, if_true]
    omega
  | x :: a, y :: b, k + 1, c, h, h1, h2 => by
    simp only [lcp] at h ⊢
    by_cases hxy : x = y
    · rw [if_pos hxy] at h ⊢
      have := lcp_more (a := a) (b := b) (k := k) (c := c) (by omega) (by simpa using h1) (by simpa using h2)
      omega
    · rw [if_neg hxy] at h; omega
theorem lcp_less : ∀ {a b : List Nat} {k : Nat}, k < lcp a b → a[k]? = b[k]?
  | [], _, _, h => by simp [lcp] at h
  | _ :: _, [], _, h => by simp [lcp] at h
  | x :: a, y :: b, k, h => by
    simp only [lcp] at h
    by_cases hxy : x = y
    · rw [if_pos hxy] at h
      subst hxy
      cases k with
      | zero => rfl
      | succ k => simpa using lcp_less (a := a) (b := b) (k := k) (by omega)
    · rw [if_neg hxy] at h; omega
end
section
set_option maxRecDepth 100000
theorem elemsOf_ints {prog : Program} {w : World} {es : List (Int × Value)} (h : (es.all fun e => match e.2 with | .int k t => e.1 == hashInt k && (Value.int k t).scannable | _ => false) = true) : PySem.ElemsOf (PySem.intKind prog w) es := by
  intro e he
  have := List.all_eq_true.mp h e he
  split at this
  · rename_i k t hk
    obtain ⟨h1, h2⟩ := Bool.and_eq_true_iff.mp this
    rw [hk]
    exact ⟨⟨k, PySem.intKind_is _ _ _ _, beq_iff_eq.mp h1⟩, h2⟩
  · cases this
noncomputable def isS (v : Option Value) (x : String) : Bool := match v with
  | some (.str y _) => y == PySem.Str.ofString x
  | _ => false
theorem isS_of {v : Option Value} {x : String} (h : isS v x = true) : ∃ t, v = some (.str (PySem.Str.ofString x) t) := by
  unfold isS at h
  split at h
  · exact ⟨_, by rw [beq_iff_eq.mp h]⟩
  · cases h
theorem k_109 (P : Params) : (K01 P).lookup 109 = some (dobj b3ents 650) := by kernel_rfl
theorem k_98 (P : Params) : (K01 P).lookup 98 = some (o98 P) := by kernel_rfl
theorem ents3_keys {prog : Program} {w : World} : ∀ (t : Nat) (c : List KV), ∀ e ∈ ents3 t c, ∃ k, PySem.KeyKind.is (PySem.intKind prog w) k e.key = true ∧ e.hash = PySem.KeyKind.hash (PySem.intKind prog w) k
  | _, [], _, h => nomatch h
  | t, (k, x) :: r, e, h => by
    rcases List.mem_cons.mp h with rfl | h
    · exact ⟨k, PySem.intKind_is _ _ _ _, rfl⟩
    · exact ents3_keys (t + 3) r e h
theorem ents2_keys {prog : Program} {w : World} : ∀ (t : Nat) (c : List KV), ∀ e ∈ ents2 t c, ∃ k, PySem.KeyKind.is (PySem.intKind prog w) k e.key = true ∧ e.hash = PySem.KeyKind.hash (PySem.intKind prog w) k
  | _, [], _, h => nomatch h
  | t, (k, x) :: r, e, h => by
    rcases List.mem_cons.mp h with rfl | h
    · exact ⟨k, PySem.intKind_is _ _ _ _, rfl⟩
    · exact ents2_keys (t + 2) r e h
theorem b3_keys {prog : Program} {w : World} : PySem.KeysOf (PySem.intKind prog w) b3ents.toArray := fun e he => by
  have he := Array.mem_toList_iff.mpr he
  rcases List.mem_append.mp he with h | h
  · exact ents3_keys _ _ e h
  · exact ents2_keys _ _ e h
noncomputable def b3fun (k : Int) : Option Value := (b3ents.find? fun e => Value.isInt k e.key).map (·.val)
theorem b3_fun (k : Int) : PySem.findBy Value.isInt b3ents.toArray k = b3fun k := by
  unfold PySem.findBy b3fun
  rw [List.find?_toArray]
theorem b3_map {w : World} {h : Heap} (X : (K01 w.params).In h) : ∃ f : Int → Option Value, h.MapOf (PySem.intKind P1 w) 109 f ∧ isS (f 383) "s" = true ∧ isS (f 119826) "s" = true ∧ isS (f 223) "ss" = true ∧ (f 83).isNone = true ∧ (f 115).isNone = true ∧ (f 10).isNone = true := by
  refine ⟨b3fun, ⟨_, _, _, X 109 _ (k_109 _), ⟨rfl, rfl, rfl⟩, rfl, b3_keys, fun k => b3_fun k⟩, ?_, ?_, ?_, ?_, ?_, ?_⟩
  all_goals kernel_rfl
noncomputable def b1keys (P : Params) : List (Int × Value) := match (o98 P).data with
  | .set es _ _ => es.toList
  | _ => []
theorem b1_set {w : World} {h : Heap} (X : (K01 w.params).In h) : ∃ (S : Int → Bool) (n : Nat), h.SetOf (PySem.intKind P1 w) 98 S n ∧ S 83 = false ∧ S 383 = false ∧ S 119826 = false ∧ S 115 = false ∧ S 223 = false ∧ S 10 = false ∧ S 173 = true ∧ S 65039 = true := by
  refine ⟨fun k => (b1keys w.params).any fun e => Value.isInt k e.2, 27, ⟨_, _, _, _, X _ _ (k_98 _), ⟨rfl, rfl, rfl⟩, rfl, elemsOf_ints (by kernel_rfl), fun k => List.any_eq_true, ?_, ?_, rfl⟩, ?_⟩
  · exact of_decide_eq_true (by kernel_rfl)
  · kernel_rfl
  · refine ⟨?_, ?_, ?_, ?_, ?_, ?_, ?_, ?_⟩ <;> kernel_rfl
end
section
noncomputable def theSigns : List Nat := [83, 383, 119826, 115, 223, 10, 173, 65039]
noncomputable def dropped (c : Nat) : Bool := c == 173 || c == 65039
noncomputable def mapped (c : Nat) : PySem.Str := PySem.Str.ofString (if c = 223 then "ss" else if c = 10 then "\n" else "s")
set_option maxRecDepth 100000 in
set_option maxHeartbeats 4000000 in
theorem in_b1 {w : World} (c : Nat) (t : Tok) (hc : c ∈ theSigns) : mark PySem.Challenge.rw_us0019_01 K01
   (Spec w 108 [.str (one c) t] [] 10 100 [] fun r E' => r = .bool (dropped c) ∧ E' = []) := by
  have hc' : c < 1114112 := by
    simp only [theSigns, List.mem_cons, List.not_mem_nil, or_false] at hc
    rcases hc with rfl | rfl | rfl | rfl | rfl | rfl | rfl | rfl <;> decide
  ((k_fill; unfold mark; (k_dflt (refine' spec_plain ?ho ?hcd ?hd1 ?hb ?hl ?hco ?hg ?hk ?hce ?_; (case ho => k_is); (case hcd => k_is); (case hd1 => decide); (case hb => intro _ KX; first | exact BindsTo.of_eq rfl | exact binds_K KX rfl (by k_is) rfl rfl rfl); (case hl => exact locs rfl); (case hco => exact rfl); (case hg => exact rfl); (case hk => exact rfl); (case hce => decide)); (try dsimp only [pa10, bd10, sc10, pa12, bd12, sc12, pa15, bd15, sc15]))))
  intro mean mg mb dp un gd outer A₀ base g L h₁ rest s tk B K T F N hR hE hsep hd hu
  simp only [List.nil_append] at N
  k_steps
  refine pack fun G9 hG9 => ?_
  obtain ⟨S, n, hS, b1, b2, b3, b4, b5, b6, b7, b8⟩ := b1_set (K.keeps F.keep)
  refine hG9 ?_
  clear hG9
  refine wpAny_inSet_of (PySem.intKind_is _ _ _ _) rfl hS ?_
  have e : S (c : Int) = dropped c := by
    simp only [theSigns, List.mem_cons, List.not_mem_nil, or_false] at hc
    rcases hc with rfl | rfl | rfl | rfl | rfl | rfl | rfl | rfl
    · exact b1
    · exact b2
    · exact b3
    · exact b4
    · exact b5
    · exact b6
    · exact b7
    · exact b8
  rw [e]
  k_steps
  dsimp only
  exact Back.intro [] F N ⟨rfl, rfl⟩ NewOk.nil
theorem getMethod_b3 {prog : Program} {w : World} {A : Around} {E : Value → Shared → Prop} {s : Shared} {f : Int → Option Value} {pl : Sem Bool} {Q : Value × List Value → Shared → Prop} (T : s.heap.MapOf (PySem.intKind prog w) 109 f) (h : Q (.builtin "dict.get", [.ref 109]) s) :
    wpAny (model prog w) A (getMethod (.ref 109) (PySem.Str.ofString "get") pl) Q E s := by
  refine pack fun G9 hG9 => ?_
  obtain ⟨o, es, ep, ho, hc, _⟩ := T
  refine hG9 ?_
  clear hG9
  exact getMethod_builtin ⟨o, ho, hc.1⟩ PySem.F.plainAttrs_dict PySem.F.slot_dict_get PySem.F.type_dict_get (fun b e => by injection e with e; subst e; exact ⟨o, ho, hc.2.1⟩) h
theorem get_b3 {prog : Program} {w : World} {A : Around} {E : Value → Shared → Prop} {s : Shared} {f : Int → Option Value} {k : Int} {tk : Tok} {Q : Value → Shared → Prop} (T : s.heap.MapOf (PySem.intKind prog w) 109 f) (h : Q ((f k).getD .none) { s with toks := s.toks + 1 }) :
    wpAny (model prog w) A (call (.builtin "dict.get") [.ref 109, .int k tk]) Q E s :=
  call_meetsIn PySem.F.slot_dict_get T.typeIs PySem.F.entry_dict_get (PySem.F.args_dict_get_2 _ _) (meets_dict_get (PySem.intKind prog w) 109 (PySem.intKind_is _ _ _ _) (by rfl)) ⟨f, T, h⟩
local macro_rules | `(tactic| walk_at "getMethod ref") => `(tactic| (rename PySem.Heap.MapOf _ _ _ _ => hMap; refine getMethod_b3 hMap ?_))
local macro_rules | `(tactic| walk_at "call builtin:dict.get") => `(tactic| (refine stopHere ?_))
local macro_rules | `(tactic| walk_at "call builtin:str.lower") => `(tactic| (refine SCL.lower (by show 1 ≤ _; decide) ?_; intro _))
set_option maxRecDepth 100000 in
set_option maxHeartbeats 4000000 in
theorem map_b3 {w : World} (c : Nat) (t : Tok) (hc : c ∈ theSigns) (hdr : dropped c = false) : mark PySem.Challenge.rw_us0019_01 K01
   (Spec w 154 [.str (one c) t] [] 10 100 [] fun r E' => ∃ t', r = .str (mapped c) t' ∧ E' = []) := by
  have hc' : c < 1114112 := by
    simp only [theSigns, List.mem_cons, List.not_mem_nil, or_false] at hc
    rcases hc with rfl | rfl | rfl | rfl | rfl | rfl | rfl | rfl <;> decide
  ((k_fill; unfold mark; (k_dflt (refine' spec_plain ?ho ?hcd ?hd1 ?hb ?hl ?hco ?hg ?hk ?hce ?_; (case ho => k_is); (case hcd => k_is); (case hd1 => decide); (case hb => intro _ KX; first | exact BindsTo.of_eq rfl | exact binds_K KX rfl (by k_is) rfl rfl rfl); (case hl => exact locs rfl); (case hco => exact rfl); (case hg => exact rfl); (case hk => exact rfl); (case hce => decide)); (try dsimp only [pa10, bd10, sc10, pa12, bd12, sc12, pa15, bd15, sc15]))))
  intro mean mg mb dp un gd outer A₀ base g L h₁ rest s tk B K T F N hR hE hsep hd hu
  simp only [List.nil_append] at N
  refine pack fun G9 hG9 => ?_
  obtain ⟨f, hf, m1, m2, m3, m4, m5, m6⟩ := b3_map (K.keeps F.keep)
  refine hG9 ?_
  clear hG9
  k_steps
  unfold Stop
  rename PySem.Heap.MapOf _ _ _ _ => hf
  refine get_b3 hf ?_
  refine pack fun G9 hG9 => ?_
  obtain ⟨t1, m1⟩ := isS_of m1
  obtain ⟨t2, m2⟩ := isS_of m2
  obtain ⟨t3, m3⟩ := isS_of m3
  refine hG9 ?_
  clear hG9
  rw [Option.isNone_iff_eq_none] at m4 m5 m6
  clear hf hc'
  simp only [theSigns, List.mem_cons, List.not_mem_nil, or_false] at hc
  rcases hc with rfl | rfl | rfl | rfl | rfl | rfl | rfl | rfl
  · rw [show f ((83 : Nat) : Int) = none from m4, Option.getD_none]
    k_steps
    dsimp only
    exact Back.intro [] (by assumption) (by assumption) ⟨_, rfl, rfl⟩ NewOk.nil
  · rw [show f ((383 : Nat) : Int) = _ from m1, Option.getD_some]
    k_steps
    dsimp only
    exact Back.intro [] (by assumption) (by assumption) ⟨_, rfl, rfl⟩ NewOk.nil
  · rw [show f ((119826 : Nat) : Int) = _ from m2, Option.getD_some]
    k_steps
    dsimp only
    exact Back.intro [] (by assumption) (by assumption) ⟨_, rfl, rfl⟩ NewOk.nil
  · rw [show f ((115 : Nat) : Int) = none from m5, Option.getD_none]
    k_steps
    dsimp only
    exact Back.intro [] (by assumption) (by assumption) ⟨_, rfl, rfl⟩ NewOk.nil
  · rw [show f ((223 : Nat) : Int) = _ from m3, Option.getD_some]
    k_steps
    dsimp only
    exact Back.intro [] (by assumption) (by assumption) ⟨_, rfl, rfl⟩ NewOk.nil
  · rw [show f ((10 : Nat) : Int) = none from m6, Option.getD_none]
    k_steps
    dsimp only
    exact Back.intro [] (by assumption) (by assumption) ⟨_, rfl, rfl⟩ NewOk.nil
  · cases hdr
  · cases hdr
noncomputable def plainOf (n : Int) : PySem.Str := PySem.Str.ofString (if n % 3 = 0 then "s" else if n % 3 = 1 then "ss" else "s\ns")
set_option maxRecDepth 100000 in
set_option maxHeartbeats 4000000 in
theorem law_plain {w : World} (n : Int) (t : Tok) : mark PySem.Challenge.rw_us0019_01 K01
   (Spec w 168 [.int n t] [] 10 100 [] fun r E' => ∃ t', r = .str (plainOf n) t' ∧ E' = []) := by
  ((k_fill; unfold mark; (k_dflt (refine' spec_plain ?ho ?hcd ?hd1 ?hb ?hl ?hco ?hg ?hk ?hce ?_; (case ho => k_is); (case hcd => k_is); (case hd1 => decide); (case hb => intro _ KX; first | exact BindsTo.of_eq rfl | exact binds_K KX rfl (by k_is) rfl rfl rfl); (case hl => exact locs rfl); (case hco => exact rfl); (case hg => exact rfl); (case hk => exact rfl); (case hce => decide)); (try dsimp only [pa10, bd10, sc10, pa12, bd12, sc12, pa15, bd15, sc15]))))
  intro mean mg mb dp un gd outer A₀ base g L h₁ rest s tk B K T F N hR hE hsep hd hu
  simp only [List.nil_append] at N
  k_steps
  have e : Int.fmod n 3 = n % 3 := Int.fmod_eq_emod_of_nonneg _ (by omega)
  rcases (show n % 3 = 0 ∨ n % 3 = 1 ∨ n % 3 = 2 by omega) with h | h | h
  all_goals
    rw [e, h]
    k_steps
    dsimp only
    exact Back.intro [] (by assumption) (news_sub (by assumption) (by (((try simp only [List.cons_append, List.nil_append]); refine (?_ : HintTo _ _ _ _) (by repeat' (with_reducible (first | exact pkA | apply pkB | apply pkC | exact pkD | apply pkE | exact pkF | apply pkG))); exact fun _ => sub_pick rfl)))) ⟨_, by unfold plainOf; rw [h]; rfl, rfl⟩ NewOk.nil
end
section
local macro_rules | `(tactic| walk_at "execs cons") => `(tactic| k_fold)
noncomputable def isWs (c : Nat) : Bool := c == 10 || c == 9 || c == 13 || c == 32
noncomputable def lexQ : List Nat → Option (List Nat × List Nat)
  | [] => none
  | c :: r => if c = 34 then some ([], r) else if c = 92 then (match r with
      | [] => none
      | e :: q => (lexQ q).map fun p => (e :: p.1, p.2)) else (lexQ r).map fun p => (c :: p.1, p.2)
noncomputable def lexP : List Nat → Option (List Nat × List Nat)
  | [] => none
  | c :: r => if isWs c then some ([], r) else if c = 92 then (match r with
      | [] => none
      | e :: q => (lexP q).map fun p => (e :: p.1, p.2)) else (lexP r).map fun p => (c :: p.1, p.2)
noncomputable def lexT : List Nat → Option (List Nat × List Nat)
  | [] => some ([], [])
  | c :: r => if isWs c then lexT r else if c = 34 then lexQ r else if c = 92 then (match r with
      | [] => none
      | e :: q => (lexP q).map fun p => (e :: p.1, p.2)) else (lexP r).map fun p => (c :: p.1, p.2)
theorem allLt_mem {d : Addr} {l : List (Addr × Obj)} (h : AllLt d l) : ∀ p ∈ l, @LT.lt Nat _ p.1 d := by
  induction l with
  | nil => exact fun _ hp => nomatch hp
  | cons a l ih =>
    intro p hp
    rcases List.mem_cons.mp hp with e | hp
    · exact e ▸ h.1
    · exact ih h.2 p hp
noncomputable def strOf (l : List Nat) : PySem.Str := ⟨l.toArray⟩
theorem strOf_nil : PySem.Str.ofString "" = strOf [] := e0
theorem strOf_one (l : List Nat) (c : Nat) : strOf l ++ one c = strOf (l ++ [c]) := by
  show PySem.Str.mk _ = PySem.Str.mk _
  congr 1
  simp [one, strOf]
theorem strOf_len (l : List Nat) : (strOf l).length = l.length := by simp [strOf, PySem.Str.length]
theorem one_len (c : Nat) : (one c).length = 1 := rfl
theorem ws_one (c : Nat) : (Builtin.Str.occurrences (PySem.Str.ofString "\n\t\r ") (one c) 0 (PySem.Str.ofString "\n\t\r ").length 1).isEmpty = !isWs c := by
  have h := StrLaws.found_one (PySem.Str.ofString "\n\t\r ") c
  have e : (PySem.Str.ofString "\n\t\r ").cps.toList = [10, 9, 13, 32] := by decide +kernel
  rw [e] at h
  rw [← Bool.not_not (List.isEmpty _), show (!(Builtin.Str.occurrences (PySem.Str.ofString "\n\t\r ") (one c) 0 (PySem.Str.ofString "\n\t\r ").length 1).isEmpty) = _ from h]
  congr 1
  unfold isWs
  rw [← List.elem_eq_mem, List.elem_cons, List.elem_cons, List.elem_cons, List.elem_cons, Bool.or_assoc, Bool.or_assoc]
  cases (c == 32) <;> rfl
theorem qt_str : PySem.Str.ofString "\"" = one 34 := by decide +kernel
theorem bs_str : PySem.Str.ofString "\\" = one 92 := by decide +kernel
local macro_rules | `(tactic| walk_at "inplaceOp Add str str") => `(tactic| (refine iadd_str ?_ (by (try simp only [strOf_len, one_len, sizeLine_eq]); omega); intro _ _))
local macro_rules | `(tactic| walk_at "call ref") => `(tactic| (refine stopHere ?_))
local macro_rules | `(tactic| walk_at "truthy ref") => `(tactic| (k_here; (with_reducible show wpAny _ _ (truthy (Value.ref _)) _ _ _); k_dflt (refine' wpAny_truthy_list ?l ?f ?_; (case l => exact News.isList (by assumption) (by k_mem)); (case f => first | decide | (simp only [List.size_toArray, List.length_cons, List.length_nil]; omega))); (try simp only [List.isEmpty_toArray, List.isEmpty_cons, List.isEmpty_nil, Bool.not_false, Bool.not_true])))
local macro_rules | `(tactic| walk_at "pyIter ref") => `(tactic| (refine stopHere ?_))
local macro_rules | `(tactic| walk_at "exec For") => `(tactic| (refine For_it ?_))
inductive GtJ0 (X : Lx) (D : Addr) (tok rst : List Nat) (cs' : List Nat) (m' : PySem.Str → Option Value) : Prop
  | mk (t : Tok) (h1 : m' (PySem.Str.ofString "fiter") = some (.ref D)) (h2 : m' (PySem.Str.ofString "token") = some (.str (strOf []) t)) (h3 : m' (PySem.Str.ofString "self") = some (.ref X.x)) (h4 : lexT cs' = some (tok, rst)) : GtJ0 X D tok rst cs' m'
inductive GtJ (lex : List Nat → Option (List Nat × List Nat)) (X : Lx) (D : Addr) (tok rst : List Nat) (cs' : List Nat) (m' : PySem.Str → Option Value) : Prop
  | mk (acc : List Nat) (t : Tok) (p : List Nat × List Nat) (h1 : m' (PySem.Str.ofString "fiter") = some (.ref D)) (h2 : m' (PySem.Str.ofString "token") = some (.str (strOf acc) t)) (h3 : lex cs' = some p) (h4 : tok = acc ++ p.1) (h5 : rst = p.2) (h6 : acc.length + cs'.length ≤ 1000000) (h7 : m' (PySem.Str.ofString "self") = some (.ref X.x)) : GtJ lex X D tok rst cs' m'
inductive GtI (w : World) (X : Lx) (yl : Value) (kp : Nat) (g : Heap) (L : Addr) (rest : List (Addr × Obj)) (s : Shared) (D mo : Addr) (te : Tok) (J : List Nat → (PySem.Str → Option Value) → Prop) (tot : Int) (b n : Nat) (s' : Shared) : Prop
  | mk (cs' : List Nat) (h1 : n = cs'.length) (h2 : cs'.length ≤ b) (h3 : LexQ w X yl kp g L rest s D mo te J tot cs' s') : GtI w X yl kp g L rest s D mo te J tot b n s'
namespace NGt
noncomputable def G (w : World) (X : Lx) (sv : List Value) (cs : List Nat) (tok : List Nat) (rst : List Nat) (k : Nat) (kp : Nat) (line : Int) (tl : Tok) (yl : Value) (mean : ExcName → Option Value) (mg : PySem.Str → Option Value) (mb : PySem.Str → Option Value) (dp : Nat) (un : Nat) (gd : Option (List Code)) (outer : List Env) (A₀ : Around) (base : Heap) (g : Heap) (L : Addr) (h₁ : Heap) (rest : List (Addr × Obj)) (s : Shared) (tk : Nat) : Prop :=
  X.Ok → StrsAre sv (cs.map one) → StrsOk (cs.map one) → cs.length < 1000000 → 0 ≤ line → line + nls cs < 2 ^ 39 → lexT cs = some (tok, rst) → PlainH w 76 (PySem.Str.ofString "_netrclex.get_token") bd7_2 sc7_2 (.ref 75) [(PySem.Str.ofString "self", .ref X.x)] 30 300 (X.led w line tl yl sv k [] kp) (fun r E' => ∃ sv' k' t' tl', r = .str (strOf tok) t' ∧ StrsAre sv' (rst.map one) ∧ E' = X.led w (line + nls cs - nls rst) tl' yl sv' k' [] kp) mean mg mb dp un gd outer A₀ base g L h₁ rest s tk
noncomputable abbrev D : Type := (World) × (Lx) × (List Value) × (List Nat) × (List Nat) × (List Nat) × (Nat) × (Nat) × (Int) × (Tok) × (Value) × (ExcName → Option Value) × (PySem.Str → Option Value) × (PySem.Str → Option Value) × (Nat) × (Nat) × (Option (List Code)) × (List Env) × (Around) × (Heap) × (Heap) × (Addr) × (Heap) × (List (Addr × Obj)) × (Shared) × (Nat)
theorem ne : Nonempty D := ⟨⟨w0, { c := 0, sg := 0, cd := 0, f := 0, dy := 0, y := 0, ypb := 0, dx := 0, x := 0, pb := 0, t1 := 0, t2 := 0, t3 := 0, t3' := 0, t4 := 0, u1 := 0, u2 := 0, u3 := 0, u3' := 0, u4 := 0, u5 := 0, lt0 := 0, qual := default, doc := .none, pm := .none, ctv := .none, oc := default, ocell := default, vs := #[], tq := 0, nm := default, pa := default, bo := [], sc := default }, [], [], [], [], 0, 0, 0, 0, .none, fun _ => none, fun _ => none, fun _ => none, 0, 0, none, [], {}, default, default, 0, default, [], {}, 0⟩⟩
noncomputable abbrev H (d : D) : Prop := G d.1 d.2.1 d.2.2.1 d.2.2.2.1 d.2.2.2.2.1 d.2.2.2.2.2.1 d.2.2.2.2.2.2.1 d.2.2.2.2.2.2.2.1 d.2.2.2.2.2.2.2.2.1 d.2.2.2.2.2.2.2.2.2.1 d.2.2.2.2.2.2.2.2.2.2.1 d.2.2.2.2.2.2.2.2.2.2.2.1 d.2.2.2.2.2.2.2.2.2.2.2.2.1 d.2.2.2.2.2.2.2.2.2.2.2.2.2.1 d.2.2.2.2.2.2.2.2.2.2.2.2.2.2.1 d.2.2.2.2.2.2.2.2.2.2.2.2.2.2.2.1 d.2.2.2.2.2.2.2.2.2.2.2.2.2.2.2.2.1 d.2.2.2.2.2.2.2.2.2.2.2.2.2.2.2.2.2.1 d.2.2.2.2.2.2.2.2.2.2.2.2.2.2.2.2.2.2.1 d.2.2.2.2.2.2.2.2.2.2.2.2.2.2.2.2.2.2.2.1 d.2.2.2.2.2.2.2.2.2.2.2.2.2.2.2.2.2.2.2.2.1 d.2.2.2.2.2.2.2.2.2.2.2.2.2.2.2.2.2.2.2.2.2.1 d.2.2.2.2.2.2.2.2.2.2.2.2.2.2.2.2.2.2.2.2.2.2.1 d.2.2.2.2.2.2.2.2.2.2.2.2.2.2.2.2.2.2.2.2.2.2.2.1 d.2.2.2.2.2.2.2.2.2.2.2.2.2.2.2.2.2.2.2.2.2.2.2.2.1 d.2.2.2.2.2.2.2.2.2.2.2.2.2.2.2.2.2.2.2.2.2.2.2.2.2
@[irreducible] noncomputable def d : D := @Classical.epsilon D ne fun d => ¬ H d
@[irreducible] noncomputable def w : World := d.1
@[irreducible] noncomputable def X : Lx := d.2.1
@[irreducible] noncomputable def sv : List Value := d.2.2.1
@[irreducible] noncomputable def cs : List Nat := d.2.2.2.1
@[irreducible] noncomputable def tok : List Nat := d.2.2.2.2.1
@[irreducible] noncomputable def rst : List Nat := d.2.2.2.2.2.1
@[irreducible] noncomputable def k : Nat := d.2.2.2.2.2.2.1
@[irreducible] noncomputable def kp : Nat := d.2.2.2.2.2.2.2.1
@[irreducible] noncomputable def line : Int := d.2.2.2.2.2.2.2.2.1
@[irreducible] noncomputable def tl : Tok := d.2.2.2.2.2.2.2.2.2.1
@[irreducible] noncomputable def yl : Value := d.2.2.2.2.2.2.2.2.2.2.1
@[irreducible] noncomputable def mean : ExcName → Option Value := d.2.2.2.2.2.2.2.2.2.2.2.1
@[irreducible] noncomputable def mg : PySem.Str → Option Value := d.2.2.2.2.2.2.2.2.2.2.2.2.1
@[irreducible] noncomputable def mb : PySem.Str → Option Value := d.2.2.2.2.2.2.2.2.2.2.2.2.2.1
@[irreducible] noncomputable def dp : Nat := d.2.2.2.2.2.2.2.2.2.2.2.2.2.2.1
@[irreducible] noncomputable def un : Nat := d.2.2.2.2.2.2.2.2.2.2.2.2.2.2.2.1
@[irreducible] noncomputable def gd : Option (List Code) := d.2.2.2.2.2.2.2.2.2.2.2.2.2.2.2.2.1
@[irreducible] noncomputable def outer : List Env := d.2.2.2.2.2.2.2.2.2.2.2.2.2.2.2.2.2.1
@[irreducible] noncomputable def A₀ : Around := d.2.2.2.2.2.2.2.2.2.2.2.2.2.2.2.2.2.2.1
@[irreducible] noncomputable def base : Heap := d.2.2.2.2.2.2.2.2.2.2.2.2.2.2.2.2.2.2.2.1
@[irreducible] noncomputable def g : Heap := d.2.2.2.2.2.2.2.2.2.2.2.2.2.2.2.2.2.2.2.2.1
@[irreducible] noncomputable def L : Addr := d.2.2.2.2.2.2.2.2.2.2.2.2.2.2.2.2.2.2.2.2.2.1
@[irreducible] noncomputable def h₁ : Heap := d.2.2.2.2.2.2.2.2.2.2.2.2.2.2.2.2.2.2.2.2.2.2.1
@[irreducible] noncomputable def rest : List (Addr × Obj) := d.2.2.2.2.2.2.2.2.2.2.2.2.2.2.2.2.2.2.2.2.2.2.2.1
@[irreducible] noncomputable def s : Shared := d.2.2.2.2.2.2.2.2.2.2.2.2.2.2.2.2.2.2.2.2.2.2.2.2.1
@[irreducible] noncomputable def tk : Nat := d.2.2.2.2.2.2.2.2.2.2.2.2.2.2.2.2.2.2.2.2.2.2.2.2.2
set_option maxRecDepth 100000 in
set_option maxHeartbeats 4000000 in
theorem core : mark PySem.Challenge.rw_us0019_01 K01 (G w X sv cs tok rst k kp line tl yl mean mg mb dp un gd outer A₀ base g L h₁ rest s tk) := by
  k_fill
  unfold mark G PlainH
  (try dsimp only [pa7_2, bd7_2, sc7_2])
  intro hX hsv hok hlen hl0 hl1 hlex
  intro B K T F N hR hE hsep hd hu
  simp only [Lx.led, Lx.obs, Lx.rd, List.cons_append, List.nil_append] at N
  have hS : X.Sep rest := fun p hp => by
    have hq (q : Addr × Obj) (hq : q ∈ X.led w line tl yl sv k [] kp) : p.1 ≠ q.1 := hsep p hp q hq
    exact ⟨hq _ (.head _), hq _ (.tail _ (.head _)), hq _ (.tail _ (.tail _ (.head _))), hq _ (.tail _ (.tail _ (.tail _ (.head _)))), hq _ (.tail _ (.tail _ (.tail _ (.tail _ (.head _))))), hq _ (.tail _ (.tail _ (.tail _ (.tail _ (.tail _ (.head _)))))), hq _ (.tail _ (.tail _ (.tail _ (.tail _ (.tail _ (.tail _ (.head _))))))), hq _ (.tail _ (.tail _ (.tail _ (.tail _ (.tail _ (.tail _ (.tail _ (.head _)))))))), hq _ (.tail _ (.tail _ (.tail _ (.tail _ (.tail _ (.tail _ (.tail _ (.tail _ (.head _)))))))))⟩
  have hs1 : ∀ p ∈ rest, p.1 ≠ X.x := fun p hp => (hS p hp).1
  have hs2 : ∀ p ∈ rest, p.1 ≠ X.dx := fun p hp => (hS p hp).2.1
  have hs3 : ∀ p ∈ rest, p.1 ≠ X.y := fun p hp => (hS p hp).2.2.1
  have hs4 : ∀ p ∈ rest, p.1 ≠ X.dy := fun p hp => (hS p hp).2.2.2.1
  have hs5 : ∀ p ∈ rest, p.1 ≠ X.f := fun p hp => (hS p hp).2.2.2.2.1
  have hs6 : ∀ p ∈ rest, p.1 ≠ X.cd := fun p hp => (hS p hp).2.2.2.2.2.1
  have hs7 : ∀ p ∈ rest, p.1 ≠ X.c := fun p hp => (hS p hp).2.2.2.2.2.2.1
  have hs8 : ∀ p ∈ rest, p.1 ≠ X.sg := fun p hp => (hS p hp).2.2.2.2.2.2.2.1
  have hs9 : ∀ p ∈ rest, p.1 ≠ X.pb := fun p hp => (hS p hp).2.2.2.2.2.2.2.2
  clear hsep
  refine pack fun G9 hG9 => ?_
  obtain ⟨o1, o2, o3, o4, o5, o6, o7, o8⟩ := hX.ord
  refine hG9 ?_
  clear hG9
  have C160 := codeHd160 K
  k_steps
  unfold Stop
  rename Fr _ _ _ _ => F9
  rename News _ _ _ ((_, ciObj _ _) :: _) => N9
  rename_i tkx hx3 q' hx2 l1 D' hx1 l2 hx0
  refine pack fun G9 hG9 => ?_
  obtain ⟨la1, la2, la3, la4, la5, la6, la7, la8, la9, la0⟩ := l1
  obtain ⟨lb0, lb1, lb2, lb3, lb4, lb5, lb6, lb7, lb8, lb9, lbr⟩ := l2
  refine hG9 ?_
  clear hG9
  have hrD : ∀ p ∈ rest, p.1 ≠ D' := fun p hp => Nat.ne_of_lt (allLt_mem lbr p hp)
  refine wpAny_pyIter_ci ⟨_, (N9 _ (.head _)).1, rfl⟩ ?_
  obtain ⟨te, N8⟩ : ∃ te, News g L hx0 ((D', ciObj (.ref q') (.str (PySem.Str.ofString "") te)) :: (q', methodObj (.ref 69) (.ref X.x)) :: (X.led w line tl yl sv k [] kp ++ rest)) := by
    refine' ⟨_, news_sub N9 ?mem⟩
    case mem => simp only [Lx.led, Lx.obs, Lx.rd, List.cons_append, List.nil_append]; (((try simp only [List.cons_append, List.nil_append]); refine (?_ : HintTo _ _ _ _) (by repeat' (with_reducible (first | exact pkA | apply pkB | apply pkC | exact pkD | apply pkE | exact pkF | apply pkG))); exact fun _ => sub_pick rfl))
  refine ⟨GtI w X yl kp g L rest s D' q' te (GtJ0 X D' tok rst) (line + nls cs) cs.length, cs.length, ⟨cs, rfl, Nat.le_refl _, ⟨sv, k, line, tl, _, _, _⟩, rfl, ⟨F9, N8, hsv, hok, ⟨_, rfl, by rw [← strOf_nil]; rfl, rfl, hlex⟩, rfl, hl0⟩⟩, ?_⟩
  clear F9 N9 N8
  intro n s' hPk1
  refine pack fun G9 hG9 => ?_
  obtain ⟨cs', rfl, hle, hQ⟩ := hPk1
  refine hG9 ?_
  clear hG9
  refine lx_next X hX B K T rfl (by omega) (by omega) hS hrD la9 lb0 hQ (by omega) hl1 ?fin ?go
  case fin =>
    intro hPk2 sv' k' tl' h' tk' m' F' N' hsv' hPk3
    refine pack fun G9 hG9 => ?_
    obtain rfl := hPk2
    obtain ⟨jt, j1, j2, j3, j4⟩ := hPk3
    refine hG9 ?_
    clear hG9
    rw [nm1 j3, under (nm1 j2), under (under (nm1 j1))] at F'
    dsimp only
    k_steps
    obtain ⟨e1, e2⟩ := Prod.mk.inj (Option.some.inj j4)
    dsimp only
    exact Back.intro (X.led w (line + nls cs) tl' yl sv' k' [] kp) (by assumption) (by assumption) ⟨_, _, _, _, by rw [← e1], by rw [← e2]; exact hsv', by rw [← e2, show nls [] = 0 from rfl, Int.sub_zero]⟩ (NewOk.same rfl)
  case go =>
    intro c r t hPk4 s'' hPk5
    refine pack fun G9 hG9 => ?_
    obtain rfl := hPk4
    obtain ⟨⟨sv', k', line', tl', h', tk', m'⟩, rfl, ⟨F', N', hsv', hok', ⟨jt, j1, j2, j3, j4⟩, hline', hl0'⟩⟩ := hPk5
    refine hG9 ?_
    clear hG9
    dsimp only at *
    rw [nm1 j3, under (nm1 j2), under (under (nm1 j1))] at F'
    try dsimp only
    clear hQ
    rw [List.length_cons] at hle
    have a0 : ([] : List Nat).length = 0 := rfl
    k_steps
    · unfold Stop
      rename (_ == _) = true => hq
      rename List.isEmpty _ = true => hw
      rename Fr _ _ _ _ => F1
      rename News _ _ _ _ => N1
      rw [ws_one] at hw
      rw [one_eq qt_str, decide_eq_true_eq] at hq
      subst hq
      have hp1 : lexQ r = some (tok, rst) := j4
      have hp2 : tok = [] ++ (tok, rst).1 := rfl
      have hp3 : rst = (tok, rst).2 := rfl
      have hsv1 := hsv'
      have hok1 := hok'
      have hli1 := hline'
      have hl01 := hl0'
      refine wpAny_pyIter_ci ⟨_, (N1 (D', ciObj (.ref q') (.str (PySem.Str.ofString "") te)) (by k_mem)).1, rfl⟩ ?_
      refine ⟨GtI w X yl kp g L rest s D' q' te (GtJ lexQ X D' tok rst) (line + nls cs) cs.length, (r).length, ⟨r, rfl, by (try simp only [List.length_cons] at *); omega, ⟨_, _, _, _, _, _, _⟩, rfl, ⟨F1, news_sub N1 (by (try simp only [Lx.led, Lx.obs, Lx.rd, List.cons_append, List.nil_append]); (((try simp only [List.cons_append, List.nil_append]); refine (?_ : HintTo _ _ _ _) (by repeat' (with_reducible (first | exact pkA | apply pkB | apply pkC | exact pkD | apply pkE | exact pkF | apply pkG))); exact fun _ => sub_pick rfl))), hsv1, hok1, ⟨[], _, _, rfl, rfl, hp1, hp2, hp3, by (try simp only [List.length_append, List.length_cons, List.length_nil] at *); omega, rfl⟩, hli1, hl01⟩⟩, ?_⟩
      clear F1 N1 hsv1 hok1
      intro n s' hPk6
      refine pack fun G9 hG9 => ?_
      obtain ⟨cs', rfl, hle2, hQ⟩ := hPk6
      refine hG9 ?_
      clear hG9
      refine lx_next X hX B K T rfl (by omega) (by omega) hS hrD la9 lb0 hQ (by omega) hl1 ?fin ?go
      case fin =>
        intro hPk7 sv' k' tl' h' tk' m' F' N' hsv' hPk8
        refine pack fun G9 hG9 => ?_
        obtain rfl := hPk7
        obtain ⟨acc, jt, p, j1, j2, j4, _, _, _, j3⟩ := hPk8
        refine hG9 ?_
        clear hG9
        cases j4
      case go =>
        intro c r t hPk9 s'' hPk10
        refine pack fun G9 hG9 => ?_
        obtain rfl := hPk9
        obtain ⟨⟨sv', k', line', tl', h', tk', m'⟩, rfl, ⟨F', N', hsv', hok', ⟨acc, jt, p, j1, j2, j4, j5, j6, j7, j3⟩, hline', hl0'⟩⟩ := hPk10
        refine hG9 ?_
        clear hG9
        dsimp only at *
        rw [nm1 j3, under (nm1 j2), under (under (nm1 j1))] at F'
        try dsimp only
        clear hQ
        rw [List.length_cons] at hle2 j7
        k_steps
        · rename (_ == _) = true => hq
          rw [one_eq qt_str, decide_eq_true_eq] at hq
          subst hq
          unfold lexQ at j4
          rw [if_pos rfl] at j4
          cases j4
          (dsimp only [ForStep]; repeat (k_unfold; (try dsimp only [ForStep])))
          dsimp only at j5 j6
          rw [List.append_nil] at j5
          have e1 : line + nls cs - nls r = line' := by omega
          exact Back.intro (X.led w line' tl' yl sv' k' [] kp) (by assumption) (news_sub (by assumption) (by (try simp only [Lx.led, Lx.obs, Lx.rd, List.cons_append, List.nil_append]); (((try simp only [List.cons_append, List.nil_append]); refine (?_ : HintTo _ _ _ _) (by repeat' (with_reducible (first | exact pkA | apply pkB | apply pkC | exact pkD | apply pkE | exact pkF | apply pkG))); exact fun _ => sub_pick rfl)))) ⟨sv', k', jt, tl', by rw [j5], by rw [j6]; exact hsv', by rw [j6, e1]⟩ (NewOk.same rfl)
        · rename (one c == PySem.Str.ofString "\"") = false => hq
          rw [one_eq qt_str, decide_eq_false_iff_not] at hq
          rename (one c == PySem.Str.ofString "\\") = true => hb
          rw [one_eq bs_str, decide_eq_true_eq] at hb
          subst hb
          unfold lexQ at j4
          rw [if_neg hq, if_pos rfl] at j4
          cases r with
          | nil => cases j4
          | cons e q =>
            unfold Stop
            rename Fr _ _ _ _ => F1
            rename News _ _ _ ((_, ciObj _ _) :: _) => N1
            refine spec_use (read_char (w := w) X hX (line := line') (tl := tl') (yl := yl) (k := k') hsv' hok' (by (try simp only [List.length_cons] at *); omega) hl0' (by have := nls_ge (l := e :: q); omega)) ((X.pb, listOf [].toArray kp) :: (D', ciObj (.ref q') (.str (PySem.Str.ofString "") te)) :: (q', methodObj (.ref 69) (.ref X.x)) :: rest) B F1 K N1 T rfl (by omega) (by omega) ?perm (hX.pbs ((hS.cons (hX.above la9)).cons (hX.above lb9))) ?_
            case perm => simp only [Lx.led, Lx.obs, Lx.rd, List.cons_append, List.nil_append]; (((try simp only [List.cons_append, List.nil_append]); refine (?_ : HintTo _ _ _ _) (by repeat' (with_reducible (first | exact pkA | apply pkB | apply pkC | exact pkD | apply pkE | exact pkF | apply pkG))); exact fun _ => sub_pick rfl))
            clear F1 N1
            intro r9 E' h9 tk9 hPk11 F2 N2 _
            refine pack fun G9 hG9 => ?_
            obtain ⟨sv2, k2, t2, tl2, rfl, hsv2, rfl⟩ := hPk11
            refine hG9 ?_
            clear hG9
            simp only [Lx.obs, Lx.rd, List.cons_append, List.nil_append] at N2
            have hok2 : StrsOk (q.map one) := fun x hx => hok' x (.tail _ hx)
            have hli2 : line' + isNl (e :: q) + nls q = line + nls cs := by rw [← hline', nls_tail (l := e :: q), List.tail_cons]; omega
            have hl02 : 0 ≤ line' + isNl (e :: q) := by unfold isNl; split <;> omega
            rw [show hdS (e :: q) = one e from rfl]
            dsimp only
            k_steps
            have hp9 := (show ∃ p9, lexQ q = some p9 ∧ tok = (acc ++ [e]) ++ p9.1 ∧ rst = p9.2 from by (obtain ⟨p9, hp9, rfl⟩ := Option.map_eq_some_iff.mp j4; exact ⟨p9, hp9, by rw [j5]; simp, j6⟩))
            refine pack fun G9 hG9 => ?_
            obtain ⟨p9, q1, q2, q3⟩ := hp9
            refine hG9 ?_
            clear hG9
            refine ForStep.next ⟨q, rfl, by (try simp only [List.length_cons] at *); omega, ⟨sv2, k2, line' + isNl (e :: q), tl2, _, _, _⟩, rfl, ⟨by assumption, news_sub (by assumption) ?mem, hsv2, hok2, ⟨(acc ++ [e]), _, p9, rfl, by rw [← strOf_one]; rfl, q1, q2, q3, by (try simp only [List.length_append, List.length_cons, List.length_nil] at *); omega, rfl⟩, hli2, hl02⟩⟩ (by (try simp only [List.length_cons]); omega)
            case mem => simp only [Lx.led, Lx.obs, Lx.rd, List.cons_append, List.nil_append]; (((try simp only [List.cons_append, List.nil_append]); refine (?_ : HintTo _ _ _ _) (by repeat' (with_reducible (first | exact pkA | apply pkB | apply pkC | exact pkD | apply pkE | exact pkF | apply pkG))); exact fun _ => sub_pick rfl))
        · rename (one c == PySem.Str.ofString "\"") = false => hq
          rw [one_eq qt_str, decide_eq_false_iff_not] at hq
          rename (one c == PySem.Str.ofString "\\") = false => hb
          rw [one_eq bs_str, decide_eq_false_iff_not] at hb
          unfold lexQ at j4
          rw [if_neg hq, if_neg hb] at j4
          have hp9 := (show ∃ p9, lexQ r = some p9 ∧ tok = (acc ++ [c]) ++ p9.1 ∧ rst = p9.2 from by (obtain ⟨p9, hp9, rfl⟩ := Option.map_eq_some_iff.mp j4; exact ⟨p9, hp9, by rw [j5]; simp, j6⟩))
          refine pack fun G9 hG9 => ?_
          obtain ⟨p9, q1, q2, q3⟩ := hp9
          refine hG9 ?_
          clear hG9
          refine ForStep.next ⟨r, rfl, by (try simp only [List.length_cons] at *); omega, ⟨sv', k', line', tl', _, _, _⟩, rfl, ⟨by assumption, news_sub (by assumption) ?mem, hsv', hok', ⟨(acc ++ [c]), _, p9, rfl, by rw [← strOf_one]; rfl, q1, q2, q3, by (try simp only [List.length_append, List.length_cons, List.length_nil] at *); omega, rfl⟩, hline', hl0'⟩⟩ (by (try simp only [List.length_cons]); omega)
          case mem => simp only [Lx.led, Lx.obs, Lx.rd, List.cons_append, List.nil_append]; (((try simp only [List.cons_append, List.nil_append]); refine (?_ : HintTo _ _ _ _) (by repeat' (with_reducible (first | exact pkA | apply pkB | apply pkC | exact pkD | apply pkE | exact pkF | apply pkG))); exact fun _ => sub_pick rfl))
    · rename List.isEmpty _ = true => hw
      rename (one c == PySem.Str.ofString "\"") = false => hq
      rename (one c == PySem.Str.ofString "\\") = true => hb
      rw [ws_one, Bool.not_eq_true'] at hw
      rw [one_eq qt_str, decide_eq_false_iff_not] at hq
      rw [one_eq bs_str, decide_eq_true_eq] at hb
      subst hb
      unfold lexT at j4
      rw [if_neg (by rw [hw]; decide), if_neg hq, if_pos rfl] at j4
      cases r with
      | nil => cases j4
      | cons e q =>
        refine pack fun G9 hG9 => ?_
        obtain ⟨p1, hp1, e9⟩ := Option.map_eq_some_iff.mp j4
        refine hG9 ?_
        clear hG9
        injection e9 with e91 e92
        have hp2 : tok = ([] ++ [e]) ++ p1.1 := e91.symm
        have hp3 : rst = p1.2 := e92.symm
        unfold Stop
        rename Fr _ _ _ _ => F1
        rename News _ _ _ ((_, ciObj _ _) :: _) => N1
        refine spec_use (read_char (w := w) X hX (line := line') (tl := tl') (yl := yl) (k := k') hsv' hok' (by (try simp only [List.length_cons] at *); omega) hl0' (by have := nls_ge (l := e :: q); omega)) ((X.pb, listOf [].toArray kp) :: (D', ciObj (.ref q') (.str (PySem.Str.ofString "") te)) :: (q', methodObj (.ref 69) (.ref X.x)) :: rest) B F1 K N1 T rfl (by omega) (by omega) ?perm (hX.pbs ((hS.cons (hX.above la9)).cons (hX.above lb9))) ?_
        case perm => simp only [Lx.led, Lx.obs, Lx.rd, List.cons_append, List.nil_append]; (((try simp only [List.cons_append, List.nil_append]); refine (?_ : HintTo _ _ _ _) (by repeat' (with_reducible (first | exact pkA | apply pkB | apply pkC | exact pkD | apply pkE | exact pkF | apply pkG))); exact fun _ => sub_pick rfl))
        clear F1 N1
        intro r9 E' h9 tk9 hPk12 F2 N2 _
        refine pack fun G9 hG9 => ?_
        obtain ⟨sv2, k2, t2, tl2, rfl, hsv2, rfl⟩ := hPk12
        refine hG9 ?_
        clear hG9
        simp only [Lx.obs, Lx.rd, List.cons_append, List.nil_append] at N2
        have hok2 : StrsOk (q.map one) := fun x hx => hok' x (.tail _ hx)
        have hli2 : line' + isNl (e :: q) + nls q = line + nls cs := by rw [← hline', nls_tail (l := e :: q), List.tail_cons]; omega
        have hl02 : 0 ≤ line' + isNl (e :: q) := by unfold isNl; split <;> omega
        rw [show hdS (e :: q) = one e from rfl]
        dsimp only
        k_steps
        unfold Stop
        rename Fr _ _ _ _ => F1
        rename News _ _ _ _ => N1
        have hsv1 := hsv2
        have hok1 := hok2
        have hli1 := hli2
        have hl01 := hl02
        clear hq hw j4
        refine wpAny_pyIter_ci ⟨_, (N1 (D', ciObj (.ref q') (.str (PySem.Str.ofString "") te)) (by k_mem)).1, rfl⟩ ?_
        refine ⟨GtI w X yl kp g L rest s D' q' te (GtJ lexP X D' tok rst) (line + nls cs) cs.length, (q).length, ⟨q, rfl, by (try simp only [List.length_cons] at *); omega, ⟨_, _, _, _, _, _, _⟩, rfl, ⟨F1, news_sub N1 (by (try simp only [Lx.led, Lx.obs, Lx.rd, List.cons_append, List.nil_append]); (((try simp only [List.cons_append, List.nil_append]); refine (?_ : HintTo _ _ _ _) (by repeat' (with_reducible (first | exact pkA | apply pkB | apply pkC | exact pkD | apply pkE | exact pkF | apply pkG))); exact fun _ => sub_pick rfl))), hsv1, hok1, ⟨([] ++ [e]), _, _, rfl, by rw [← strOf_one]; rfl, hp1, hp2, hp3, by (try simp only [List.length_append, List.length_cons, List.length_nil] at *); omega, rfl⟩, hli1, hl01⟩⟩, ?_⟩
        clear F1 N1 hsv1 hok1
        intro n s' hPk13
        refine pack fun G9 hG9 => ?_
        obtain ⟨cs', rfl, hle2, hQ⟩ := hPk13
        refine hG9 ?_
        clear hG9
        refine lx_next X hX B K T rfl (by omega) (by omega) hS hrD la9 lb0 hQ (by omega) hl1 ?fin ?go
        case fin =>
          intro hPk14 sv' k' tl' h' tk' m' F' N' hsv' hPk15
          refine pack fun G9 hG9 => ?_
          obtain rfl := hPk14
          obtain ⟨acc, jt, p, j1, j2, j4, _, _, _, j3⟩ := hPk15
          refine hG9 ?_
          clear hG9
          cases j4
        case go =>
          intro c r t hPk16 s'' hPk17
          refine pack fun G9 hG9 => ?_
          obtain rfl := hPk16
          obtain ⟨⟨sv', k', line', tl', h', tk', m'⟩, rfl, ⟨F', N', hsv', hok', ⟨acc, jt, p, j1, j2, j4, j5, j6, j7, j3⟩, hline', hl0'⟩⟩ := hPk17
          refine hG9 ?_
          clear hG9
          dsimp only at *
          rw [nm1 j3, under (nm1 j2), under (under (nm1 j1))] at F'
          try dsimp only
          clear hQ
          rw [List.length_cons] at hle2 j7
          k_steps
          · rename (List.isEmpty _) = true => hq
            rw [ws_one, Bool.not_eq_true'] at hq
            rename (one c == PySem.Str.ofString "\\") = true => hb
            rw [one_eq bs_str, decide_eq_true_eq] at hb
            subst hb
            unfold lexP at j4
            rw [if_neg (by rw [hq]; decide), if_pos rfl] at j4
            cases r with
            | nil => cases j4
            | cons e q =>
              unfold Stop
              rename Fr _ _ _ _ => F1
              rename News _ _ _ ((_, ciObj _ _) :: _) => N1
              refine spec_use (read_char (w := w) X hX (line := line') (tl := tl') (yl := yl) (k := k') hsv' hok' (by (try simp only [List.length_cons] at *); omega) hl0' (by have := nls_ge (l := e :: q); omega)) ((X.pb, listOf [].toArray kp) :: (D', ciObj (.ref q') (.str (PySem.Str.ofString "") te)) :: (q', methodObj (.ref 69) (.ref X.x)) :: rest) B F1 K N1 T rfl (by omega) (by omega) ?perm (hX.pbs ((hS.cons (hX.above la9)).cons (hX.above lb9))) ?_
              case perm => simp only [Lx.led, Lx.obs, Lx.rd, List.cons_append, List.nil_append]; (((try simp only [List.cons_append, List.nil_append]); refine (?_ : HintTo _ _ _ _) (by repeat' (with_reducible (first | exact pkA | apply pkB | apply pkC | exact pkD | apply pkE | exact pkF | apply pkG))); exact fun _ => sub_pick rfl))
              clear F1 N1
              intro r9 E' h9 tk9 hPk18 F2 N2 _
              refine pack fun G9 hG9 => ?_
              obtain ⟨sv2, k2, t2, tl2, rfl, hsv2, rfl⟩ := hPk18
              refine hG9 ?_
              clear hG9
              simp only [Lx.obs, Lx.rd, List.cons_append, List.nil_append] at N2
              have hok2 : StrsOk (q.map one) := fun x hx => hok' x (.tail _ hx)
              have hli2 : line' + isNl (e :: q) + nls q = line + nls cs := by rw [← hline', nls_tail (l := e :: q), List.tail_cons]; omega
              have hl02 : 0 ≤ line' + isNl (e :: q) := by unfold isNl; split <;> omega
              rw [show hdS (e :: q) = one e from rfl]
              dsimp only
              k_steps
              have hp9 := (show ∃ p9, lexP q = some p9 ∧ tok = (acc ++ [e]) ++ p9.1 ∧ rst = p9.2 from by (obtain ⟨p9, hp9, rfl⟩ := Option.map_eq_some_iff.mp j4; exact ⟨p9, hp9, by rw [j5]; simp, j6⟩))
              refine pack fun G9 hG9 => ?_
              obtain ⟨p9, q1, q2, q3⟩ := hp9
              refine hG9 ?_
              clear hG9
              refine ForStep.next ⟨q, rfl, by (try simp only [List.length_cons] at *); omega, ⟨sv2, k2, line' + isNl (e :: q), tl2, _, _, _⟩, rfl, ⟨by assumption, news_sub (by assumption) ?mem, hsv2, hok2, ⟨(acc ++ [e]), _, p9, rfl, by rw [← strOf_one]; rfl, q1, q2, q3, by (try simp only [List.length_append, List.length_cons, List.length_nil] at *); omega, rfl⟩, hli2, hl02⟩⟩ (by (try simp only [List.length_cons]); omega)
              case mem => simp only [Lx.led, Lx.obs, Lx.rd, List.cons_append, List.nil_append]; (((try simp only [List.cons_append, List.nil_append]); refine (?_ : HintTo _ _ _ _) (by repeat' (with_reducible (first | exact pkA | apply pkB | apply pkC | exact pkD | apply pkE | exact pkF | apply pkG))); exact fun _ => sub_pick rfl))
          · rename (List.isEmpty _) = true => hq
            rw [ws_one, Bool.not_eq_true'] at hq
            rename (one c == PySem.Str.ofString "\\") = false => hb
            rw [one_eq bs_str, decide_eq_false_iff_not] at hb
            unfold lexP at j4
            rw [if_neg (by rw [hq]; decide), if_neg hb] at j4
            have hp9 := (show ∃ p9, lexP r = some p9 ∧ tok = (acc ++ [c]) ++ p9.1 ∧ rst = p9.2 from by (obtain ⟨p9, hp9, rfl⟩ := Option.map_eq_some_iff.mp j4; exact ⟨p9, hp9, by rw [j5]; simp, j6⟩))
            refine pack fun G9 hG9 => ?_
            obtain ⟨p9, q1, q2, q3⟩ := hp9
            refine hG9 ?_
            clear hG9
            refine ForStep.next ⟨r, rfl, by (try simp only [List.length_cons] at *); omega, ⟨sv', k', line', tl', _, _, _⟩, rfl, ⟨by assumption, news_sub (by assumption) ?mem, hsv', hok', ⟨(acc ++ [c]), _, p9, rfl, by rw [← strOf_one]; rfl, q1, q2, q3, by (try simp only [List.length_append, List.length_cons, List.length_nil] at *); omega, rfl⟩, hline', hl0'⟩⟩ (by (try simp only [List.length_cons]); omega)
            case mem => simp only [Lx.led, Lx.obs, Lx.rd, List.cons_append, List.nil_append]; (((try simp only [List.cons_append, List.nil_append]); refine (?_ : HintTo _ _ _ _) (by repeat' (with_reducible (first | exact pkA | apply pkB | apply pkC | exact pkD | apply pkE | exact pkF | apply pkG))); exact fun _ => sub_pick rfl))
          · rename List.isEmpty _ = false => hw
            rw [ws_one, Bool.not_eq_false'] at hw
            unfold lexP at j4
            rw [if_pos hw] at j4
            cases j4
            (dsimp only [ForStep]; repeat (k_unfold; (try dsimp only [ForStep])))
            dsimp only at j5 j6
            rw [List.append_nil] at j5
            have e1 : line + nls cs - nls r = line' := by omega
            exact Back.intro (X.led w line' tl' yl sv' k' [] kp) (by assumption) (news_sub (by assumption) (by (try simp only [Lx.led, Lx.obs, Lx.rd, List.cons_append, List.nil_append]); (((try simp only [List.cons_append, List.nil_append]); refine (?_ : HintTo _ _ _ _) (by repeat' (with_reducible (first | exact pkA | apply pkB | apply pkC | exact pkD | apply pkE | exact pkF | apply pkG))); exact fun _ => sub_pick rfl)))) ⟨sv', k', jt, tl', by rw [j5], by rw [j6]; exact hsv', by rw [j6, e1]⟩ (NewOk.same rfl)
    · rename List.isEmpty _ = true => hw
      rename (one c == PySem.Str.ofString "\"") = false => hq
      rename (one c == PySem.Str.ofString "\\") = false => hb
      rw [ws_one, Bool.not_eq_true'] at hw
      rw [one_eq qt_str, decide_eq_false_iff_not] at hq
      rw [one_eq bs_str, decide_eq_false_iff_not] at hb
      unfold lexT at j4
      rw [if_neg (by rw [hw]; decide), if_neg hq, if_neg hb] at j4
      refine pack fun G9 hG9 => ?_
      obtain ⟨p1, hp1, e9⟩ := Option.map_eq_some_iff.mp j4
      refine hG9 ?_
      clear hG9
      injection e9 with e91 e92
      have hp2 : tok = ([] ++ [c]) ++ p1.1 := e91.symm
      have hp3 : rst = p1.2 := e92.symm
      unfold Stop
      rename Fr _ _ _ _ => F1
      rename News _ _ _ _ => N1
      have hsv1 := hsv'
      have hok1 := hok'
      have hli1 := hline'
      have hl01 := hl0'
      clear hq hw hb j4
      refine wpAny_pyIter_ci ⟨_, (N1 (D', ciObj (.ref q') (.str (PySem.Str.ofString "") te)) (by k_mem)).1, rfl⟩ ?_
      refine ⟨GtI w X yl kp g L rest s D' q' te (GtJ lexP X D' tok rst) (line + nls cs) cs.length, (r).length, ⟨r, rfl, by (try simp only [List.length_cons] at *); omega, ⟨_, _, _, _, _, _, _⟩, rfl, ⟨F1, news_sub N1 (by (try simp only [Lx.led, Lx.obs, Lx.rd, List.cons_append, List.nil_append]); (((try simp only [List.cons_append, List.nil_append]); refine (?_ : HintTo _ _ _ _) (by repeat' (with_reducible (first | exact pkA | apply pkB | apply pkC | exact pkD | apply pkE | exact pkF | apply pkG))); exact fun _ => sub_pick rfl))), hsv1, hok1, ⟨([] ++ [c]), _, _, rfl, by rw [← strOf_one]; rfl, hp1, hp2, hp3, by (try simp only [List.length_append, List.length_cons, List.length_nil] at *); omega, rfl⟩, hli1, hl01⟩⟩, ?_⟩
      clear F1 N1 hsv1 hok1
      intro n s' hPk19
      refine pack fun G9 hG9 => ?_
      obtain ⟨cs', rfl, hle2, hQ⟩ := hPk19
      refine hG9 ?_
      clear hG9
      refine lx_next X hX B K T rfl (by omega) (by omega) hS hrD la9 lb0 hQ (by omega) hl1 ?fin ?go
      case fin =>
        intro hPk20 sv' k' tl' h' tk' m' F' N' hsv' hPk21
        refine pack fun G9 hG9 => ?_
        obtain rfl := hPk20
        obtain ⟨acc, jt, p, j1, j2, j4, _, _, _, j3⟩ := hPk21
        refine hG9 ?_
        clear hG9
        cases j4
      case go =>
        intro c r t hPk22 s'' hPk23
        refine pack fun G9 hG9 => ?_
        obtain rfl := hPk22
        obtain ⟨⟨sv', k', line', tl', h', tk', m'⟩, rfl, ⟨F', N', hsv', hok', ⟨acc, jt, p, j1, j2, j4, j5, j6, j7, j3⟩, hline', hl0'⟩⟩ := hPk23
        refine hG9 ?_
        clear hG9
        dsimp only at *
        rw [nm1 j3, under (nm1 j2), under (under (nm1 j1))] at F'
        try dsimp only
        clear hQ
        rw [List.length_cons] at hle2 j7
        k_steps
        · rename (List.isEmpty _) = true => hq
          rw [ws_one, Bool.not_eq_true'] at hq
          rename (one c == PySem.Str.ofString "\\") = true => hb
          rw [one_eq bs_str, decide_eq_true_eq] at hb
          subst hb
          unfold lexP at j4
          rw [if_neg (by rw [hq]; decide), if_pos rfl] at j4
          cases r with
          | nil => cases j4
          | cons e q =>
            unfold Stop
            rename Fr _ _ _ _ => F1
            rename News _ _ _ ((_, ciObj _ _) :: _) => N1
            refine spec_use (read_char (w := w) X hX (line := line') (tl := tl') (yl := yl) (k := k') hsv' hok' (by (try simp only [List.length_cons] at *); omega) hl0' (by have := nls_ge (l := e :: q); omega)) ((X.pb, listOf [].toArray kp) :: (D', ciObj (.ref q') (.str (PySem.Str.ofString "") te)) :: (q', methodObj (.ref 69) (.ref X.x)) :: rest) B F1 K N1 T rfl (by omega) (by omega) ?perm (hX.pbs ((hS.cons (hX.above la9)).cons (hX.above lb9))) ?_
            case perm => simp only [Lx.led, Lx.obs, Lx.rd, List.cons_append, List.nil_append]; (((try simp only [List.cons_append, List.nil_append]); refine (?_ : HintTo _ _ _ _) (by repeat' (with_reducible (first | exact pkA | apply pkB | apply pkC | exact pkD | apply pkE | exact pkF | apply pkG))); exact fun _ => sub_pick rfl))
            clear F1 N1
            intro r9 E' h9 tk9 hPk24 F2 N2 _
            refine pack fun G9 hG9 => ?_
            obtain ⟨sv2, k2, t2, tl2, rfl, hsv2, rfl⟩ := hPk24
            refine hG9 ?_
            clear hG9
            simp only [Lx.obs, Lx.rd, List.cons_append, List.nil_append] at N2
            have hok2 : StrsOk (q.map one) := fun x hx => hok' x (.tail _ hx)
            have hli2 : line' + isNl (e :: q) + nls q = line + nls cs := by rw [← hline', nls_tail (l := e :: q), List.tail_cons]; omega
            have hl02 : 0 ≤ line' + isNl (e :: q) := by unfold isNl; split <;> omega
            rw [show hdS (e :: q) = one e from rfl]
            dsimp only
            k_steps
            have hp9 := (show ∃ p9, lexP q = some p9 ∧ tok = (acc ++ [e]) ++ p9.1 ∧ rst = p9.2 from by (obtain ⟨p9, hp9, rfl⟩ := Option.map_eq_some_iff.mp j4; exact ⟨p9, hp9, by rw [j5]; simp, j6⟩))
            refine pack fun G9 hG9 => ?_
            obtain ⟨p9, q1, q2, q3⟩ := hp9
            refine hG9 ?_
            clear hG9
            refine ForStep.next ⟨q, rfl, by (try simp only [List.length_cons] at *); omega, ⟨sv2, k2, line' + isNl (e :: q), tl2, _, _, _⟩, rfl, ⟨by assumption, news_sub (by assumption) ?mem, hsv2, hok2, ⟨(acc ++ [e]), _, p9, rfl, by rw [← strOf_one]; rfl, q1, q2, q3, by (try simp only [List.length_append, List.length_cons, List.length_nil] at *); omega, rfl⟩, hli2, hl02⟩⟩ (by (try simp only [List.length_cons]); omega)
            case mem => simp only [Lx.led, Lx.obs, Lx.rd, List.cons_append, List.nil_append]; (((try simp only [List.cons_append, List.nil_append]); refine (?_ : HintTo _ _ _ _) (by repeat' (with_reducible (first | exact pkA | apply pkB | apply pkC | exact pkD | apply pkE | exact pkF | apply pkG))); exact fun _ => sub_pick rfl))
        · rename (List.isEmpty _) = true => hq
          rw [ws_one, Bool.not_eq_true'] at hq
          rename (one c == PySem.Str.ofString "\\") = false => hb
          rw [one_eq bs_str, decide_eq_false_iff_not] at hb
          unfold lexP at j4
          rw [if_neg (by rw [hq]; decide), if_neg hb] at j4
          have hp9 := (show ∃ p9, lexP r = some p9 ∧ tok = (acc ++ [c]) ++ p9.1 ∧ rst = p9.2 from by (obtain ⟨p9, hp9, rfl⟩ := Option.map_eq_some_iff.mp j4; exact ⟨p9, hp9, by rw [j5]; simp, j6⟩))
          refine pack fun G9 hG9 => ?_
          obtain ⟨p9, q1, q2, q3⟩ := hp9
          refine hG9 ?_
          clear hG9
          refine ForStep.next ⟨r, rfl, by (try simp only [List.length_cons] at *); omega, ⟨sv', k', line', tl', _, _, _⟩, rfl, ⟨by assumption, news_sub (by assumption) ?mem, hsv', hok', ⟨(acc ++ [c]), _, p9, rfl, by rw [← strOf_one]; rfl, q1, q2, q3, by (try simp only [List.length_append, List.length_cons, List.length_nil] at *); omega, rfl⟩, hline', hl0'⟩⟩ (by (try simp only [List.length_cons]); omega)
          case mem => simp only [Lx.led, Lx.obs, Lx.rd, List.cons_append, List.nil_append]; (((try simp only [List.cons_append, List.nil_append]); refine (?_ : HintTo _ _ _ _) (by repeat' (with_reducible (first | exact pkA | apply pkB | apply pkC | exact pkD | apply pkE | exact pkF | apply pkG))); exact fun _ => sub_pick rfl))
        · rename List.isEmpty _ = false => hw
          rw [ws_one, Bool.not_eq_false'] at hw
          unfold lexP at j4
          rw [if_pos hw] at j4
          cases j4
          (dsimp only [ForStep]; repeat (k_unfold; (try dsimp only [ForStep])))
          dsimp only at j5 j6
          rw [List.append_nil] at j5
          have e1 : line + nls cs - nls r = line' := by omega
          exact Back.intro (X.led w line' tl' yl sv' k' [] kp) (by assumption) (news_sub (by assumption) (by (try simp only [Lx.led, Lx.obs, Lx.rd, List.cons_append, List.nil_append]); (((try simp only [List.cons_append, List.nil_append]); refine (?_ : HintTo _ _ _ _) (by repeat' (with_reducible (first | exact pkA | apply pkB | apply pkC | exact pkD | apply pkE | exact pkF | apply pkG))); exact fun _ => sub_pick rfl)))) ⟨sv', k', jt, tl', by rw [j5], by rw [j6]; exact hsv', by rw [j6, e1]⟩ (NewOk.same rfl)
    · rename List.isEmpty _ = false => hw
      rw [ws_one, Bool.not_eq_false'] at hw
      unfold lexT at j4
      rw [if_pos hw] at j4
      dsimp only
      refine ForStep.cont ⟨r, rfl, by omega, ⟨sv', k', line', tl', _, _, _⟩, rfl, ⟨by assumption, news_sub (by assumption) ?mem, hsv', hok', ⟨_, rfl, rfl, rfl, j4⟩, hline', hl0'⟩⟩ (by (try simp only [List.length_cons]); omega)
      case mem => simp only [Lx.led, Lx.obs, Lx.rd, List.cons_append, List.nil_append]; (((try simp only [List.cons_append, List.nil_append]); refine (?_ : HintTo _ _ _ _) (by repeat' (with_reducible (first | exact pkA | apply pkB | apply pkC | exact pkD | apply pkE | exact pkF | apply pkG))); exact fun _ => sub_pick rfl))
theorem all (d : D) : H d := by
  refine eps_all ne H ?_ d
  have h := core
  unfold mark w X sv cs tok rst k kp line tl yl mean mg mb dp un gd outer A₀ base g L h₁ rest s tk NGt.d at h
  exact h
end NGt
set_option maxRecDepth 100000 in
set_option maxHeartbeats 4000000 in
theorem get_token {w : World} (X : Lx) (hX : X.Ok) {sv : List Value} {cs tok rst : List Nat} {k kp : Nat} {line : Int} {tl : Tok} {yl : Value} (hsv : StrsAre sv (cs.map one)) (hok : StrsOk (cs.map one)) (hlen : cs.length < 1000000) (hl0 : 0 ≤ line) (hl1 : line + nls cs < 2 ^ 39)
    (hlex : lexT cs = some (tok, rst)) : mark PySem.Challenge.rw_us0019_01 K01
   (Spec w 76 [.ref X.x] [] 30 300 (X.led w line tl yl sv k [] kp)
     fun r E' => ∃ sv' k' t' tl', r = .str (strOf tok) t' ∧ StrsAre sv' (rst.map one) ∧ E' = X.led w (line + nls cs - nls rst) tl' yl sv' k' [] kp) := by
  ((k_fill; unfold mark; (k_dflt (refine' spec_plain ?ho ?hcd ?hd1 ?hb ?hl ?hco ?hg ?hk ?hce ?_; (case ho => k_is); (case hcd => k_is); (case hd1 => decide); (case hb => intro _ KX; first | exact BindsTo.of_eq rfl | exact binds_K KX rfl (by k_is) rfl rfl rfl); (case hl => exact locs rfl); (case hco => exact rfl); (case hg => exact rfl); (case hk => exact rfl); (case hce => decide)); (try dsimp only [pa7_2, bd7_2, sc7_2]))))
  intro mean mg mb dp un gd outer A₀ base g L h₁ rest s tk
  exact NGt.all ⟨w, X, sv, cs, tok, rst, k, kp, line, tl, yl, mean, mg, mb, dp, un, gd, outer, A₀, base, g, L, h₁, rest, s, tk⟩ hX hsv hok hlen hl0 hl1 hlex
end
section
theorem strsAre_snoc {x : PySem.Str} {t : Tok} : ∀ {vs : List Value} {ss : List PySem.Str}, StrsAre vs ss → StrsAre (vs ++ [.str x t]) (ss ++ [x])
  | _, _, .nil => .cons _ _ .nil
  | _, _, .cons _ _ h => .cons _ _ (strsAre_snoc h)
theorem strOf_append (a b : List Nat) : strOf a ++ strOf b = strOf (a ++ b) := by
  show PySem.Str.mk _ = PySem.Str.mk _
  congr 1
  simp [strOf]
theorem join_flat : ∀ l : List (List Nat), PySem.Str.join ⟨#[]⟩ (l.map strOf) = strOf l.flatten
  | [] => rfl
  | a :: r => by rw [List.map_cons, join_nil_cons, join_flat r, strOf_append]; rfl
theorem txt_join {x : PySem.Str} (hx : x = ⟨#[]⟩) (l : List (List Nat)) : Txt.join x (l.map strOf) = strOf l.flatten := by
  subst hx
  rw [beq_iff_eq.mp (join_plain_closes _ _), join_flat]
theorem len_flat (B : Nat) : ∀ l : List (List Nat), (∀ a ∈ l, a.length ≤ B) → ((l.map strOf).map (·.length)).sum ≤ B * l.length
  | [], _ => by simp
  | a :: r, h => by
    have ih := len_flat B r fun b hb => h b (.tail _ hb)
    have ha := h a (.head _)
    simp only [List.map_cons, List.sum_cons, List.length_cons, strOf_len, Nat.mul_succ] at ih ⊢
    omega
end
section
theorem Lx.sep_of {X : Lx} {w line tl yl sv k ps kp} {rest : List (Addr × Obj)} (h : ∀ p ∈ rest, ∀ q ∈ X.led w line tl yl sv k ps kp, p.1 ≠ q.1) : X.Sep rest := fun p hp => by
  have hq (q : Addr × Obj) (hq : q ∈ X.led w line tl yl sv k ps kp) : p.1 ≠ q.1 := h p hp q hq
  exact ⟨hq _ (.head _), hq _ (.tail _ (.head _)), hq _ (.tail _ (.tail _ (.head _))), hq _ (.tail _ (.tail _ (.tail _ (.head _)))), hq _ (.tail _ (.tail _ (.tail _ (.tail _ (.head _))))), hq _ (.tail _ (.tail _ (.tail _ (.tail _ (.tail _ (.head _)))))), hq _ (.tail _ (.tail _ (.tail _ (.tail _ (.tail _ (.tail _ (.head _))))))), hq _ (.tail _ (.tail _ (.tail _ (.tail _ (.tail _ (.tail _ (.tail _ (.head _)))))))), hq _ (.tail _ (.tail _ (.tail _ (.tail _ (.tail _ (.tail _ (.tail _ (.tail _ (.head _)))))))))⟩
local macro_rules | `(tactic| walk_at "truthy ref") => `(tactic| (k_here; (with_reducible show wpAny _ _ (truthy (Value.ref _)) _ _ _); k_dflt (refine' wpAny_truthy_list ?l ?f ?_; (case l => exact News.isList (by assumption) (by k_mem)); (case f => first | decide | (simp only [List.size_toArray, List.length_cons, List.length_nil]; omega))); (try simp only [List.isEmpty_toArray, List.isEmpty_cons, List.isEmpty_nil, Bool.not_false, Bool.not_true])))
set_option maxRecDepth 100000 in
set_option maxHeartbeats 4000000 in
theorem get_pushed {w : World} (X : Lx) (hX : X.Ok) {sv ps : List Value} {v : Value} {k kp : Nat} {line : Int} {tl : Tok} {yl : Value} (hlen : ps.length < 1000) : mark PySem.Challenge.rw_us0019_01 K01
   (Spec w 76 [.ref X.x] [] 30 300 (X.led w line tl yl sv k (v :: ps) kp)
     fun r E' => ∃ kp', r = v ∧ E' = X.led w line tl yl sv k ps kp') := by
  ((k_fill; unfold mark; (k_dflt (refine' spec_plain ?ho ?hcd ?hd1 ?hb ?hl ?hco ?hg ?hk ?hce ?_; (case ho => k_is); (case hcd => k_is); (case hd1 => decide); (case hb => intro _ KX; first | exact BindsTo.of_eq rfl | exact binds_K KX rfl (by k_is) rfl rfl rfl); (case hl => exact locs rfl); (case hco => exact rfl); (case hg => exact rfl); (case hk => exact rfl); (case hce => decide)); (try dsimp only [pa7_2, bd7_2, sc7_2, pa7_3, bd7_3, sc7_3]))))
  intro mean mg mb dp un gd outer A₀ base g L h₁ rest s tk B K T F N hR hE hsep hd hu
  simp only [Lx.led, Lx.obs, Lx.rd, List.cons_append, List.nil_append] at N
  have hS : X.Sep rest := Lx.sep_of hsep
  have hs1 : ∀ p ∈ rest, p.1 ≠ X.x := fun p hp => (hS p hp).1
  have hs2 : ∀ p ∈ rest, p.1 ≠ X.dx := fun p hp => (hS p hp).2.1
  have hs9 : ∀ p ∈ rest, p.1 ≠ X.pb := fun p hp => (hS p hp).2.2.2.2.2.2.2.2
  refine pack fun G9 hG9 => ?_
  obtain ⟨o1, o2, o3, o4, o5, o6, o7, o8⟩ := hX.ord
  refine hG9 ?_
  clear hG9
  have p7 := Nat.lt_trans o7 o8
  have p6 := Nat.lt_trans o6 p7
  have p5 := Nat.lt_trans o5 p6
  have p4 := Nat.lt_trans o4 p5
  have p3 := Nat.lt_trans o3 p4
  have p2 := Nat.lt_trans o2 p3
  have p1 := Nat.lt_trans o1 p2
  have C160 := codeHd160 K
  k_steps
  refine kl_popAt (k := 0) (p := []) (q := ps) (y := v) (by k_asm) (by k_asm) rfl ?_ rfl (by k_upd) ?_ ?_
  · simp [seqIndex?]
  · simp only [List.length_cons, sizeLine_eq]; omega
  intro h' F' N'
  k_steps
  dsimp only
  exact Back.intro (X.led w line tl yl sv k ps _) (by assumption) (news_sub (by assumption) (by (try simp only [Lx.led, Lx.obs, Lx.rd, List.cons_append, List.nil_append]); (((try simp only [List.cons_append, List.nil_append]); refine (?_ : HintTo _ _ _ _) (by repeat' (with_reducible (first | exact pkA | apply pkB | apply pkC | exact pkD | apply pkE | exact pkF | apply pkG))); exact fun _ => sub_pick rfl)))) ⟨_, rfl, rfl⟩ (NewOk.same rfl)
set_option maxRecDepth 100000 in
set_option maxHeartbeats 4000000 in
theorem push_token {w : World} (X : Lx) (hX : X.Ok) {sv ps : List Value} {v : Value} {k kp : Nat} {line : Int} {tl : Tok} {yl : Value} (hlen : ps.length < 1000) : mark PySem.Challenge.rw_us0019_01 K01
   (Spec w 83 [.ref X.x, v] [] 30 300 (X.led w line tl yl sv k ps kp)
     fun r E' => ∃ kp', r = .none ∧ E' = X.led w line tl yl sv k (ps ++ [v]) kp') := by
  ((k_fill; unfold mark; (k_dflt (refine' spec_plain ?ho ?hcd ?hd1 ?hb ?hl ?hco ?hg ?hk ?hce ?_; (case ho => k_is); (case hcd => k_is); (case hd1 => decide); (case hb => intro _ KX; first | exact BindsTo.of_eq rfl | exact binds_K KX rfl (by k_is) rfl rfl rfl); (case hl => exact locs rfl); (case hco => exact rfl); (case hg => exact rfl); (case hk => exact rfl); (case hce => decide)); (try dsimp only [pa7_2, bd7_2, sc7_2, pa7_3, bd7_3, sc7_3]))))
  intro mean mg mb dp un gd outer A₀ base g L h₁ rest s tk B K T F N hR hE hsep hd hu
  simp only [Lx.led, Lx.obs, Lx.rd, List.cons_append, List.nil_append] at N
  have hS : X.Sep rest := Lx.sep_of hsep
  have hs1 : ∀ p ∈ rest, p.1 ≠ X.x := fun p hp => (hS p hp).1
  have hs2 : ∀ p ∈ rest, p.1 ≠ X.dx := fun p hp => (hS p hp).2.1
  have hs9 : ∀ p ∈ rest, p.1 ≠ X.pb := fun p hp => (hS p hp).2.2.2.2.2.2.2.2
  refine pack fun G9 hG9 => ?_
  obtain ⟨o1, o2, o3, o4, o5, o6, o7, o8⟩ := hX.ord
  refine hG9 ?_
  clear hG9
  have p7 := Nat.lt_trans o7 o8
  have p6 := Nat.lt_trans o6 p7
  have p5 := Nat.lt_trans o5 p6
  have p4 := Nat.lt_trans o4 p5
  have p3 := Nat.lt_trans o3 p4
  have p2 := Nat.lt_trans o2 p3
  have p1 := Nat.lt_trans o1 p2
  have C160 := codeHd160 K
  k_steps
  dsimp only
  rename News _ _ _ ((_, _) :: _) => N9
  rw [List.push_toArray] at N9
  exact Back.intro (X.led w line tl yl sv k (ps ++ [v]) _) (by assumption) (news_sub (by assumption) (by (try simp only [Lx.led, Lx.obs, Lx.rd, List.cons_append, List.nil_append]); (((try simp only [List.cons_append, List.nil_append]); refine (?_ : HintTo _ _ _ _) (by repeat' (with_reducible (first | exact pkA | apply pkB | apply pkC | exact pkD | apply pkE | exact pkF | apply pkG))); exact fun _ => sub_pick rfl)))) ⟨_, rfl, rfl⟩ (NewOk.same rfl)
end
section
local macro_rules | `(tactic| walk_at "no such") => `(tactic| skip)
theorem strOf_inj {a b : List Nat} (h : strOf a = strOf b) : a = b := by
  have := congrArg (fun s : PySem.Str => s.cps.toList) h
  simpa [strOf] using this
inductive Toks : List Nat → List (List Nat) → Prop
  | done {cs : List Nat} (h : lexT cs = some ([], [])) : Toks cs []
  | more {cs tok rst : List Nat} {l : List (List Nat)} (h : lexT cs = some (tok, rst)) (hn : tok ≠ []) (r : Toks rst l) : Toks cs (tok :: l)
noncomputable def mapC (c : Nat) : List Nat := if c = 223 then [115, 115] else if c = 10 then [10] else [115]
theorem mapped_eq (c : Nat) : mapped c = strOf (mapC c) := by
  unfold mapped mapC
  by_cases h : c = 223
  · rw [if_pos h, if_pos h]; decide +kernel
  · rw [if_neg h, if_neg h]
    by_cases h' : c = 10
    · rw [if_pos h', if_pos h']; decide +kernel
    · rw [if_neg h', if_neg h']; decide +kernel
theorem mapC_len (c : Nat) : (mapC c).length ≤ 2 := by
  unfold mapC
  split
  · decide
  · split <;> decide
noncomputable def prepC (tok : List Nat) : List Nat := (tok.filter fun c => !dropped c).flatMap mapC
theorem lexQ_suffix : ∀ (n : Nat) (cs tok rst : List Nat), cs.length ≤ n → lexQ cs = some (tok, rst) → ∃ p, cs = p ++ rst
  | 0, [], _, _, _, h => by simp [lexQ] at h
  | n + 1, [], _, _, _, h => by simp [lexQ] at h
  | 0, _ :: _, _, _, hn, _ => by simp at hn
  | n + 1, c :: r, tok, rst, hn, h => by
    unfold lexQ at h
    split at h
    · cases h; exact ⟨[c], rfl⟩
    · split at h
      · split at h
        · cases h
        · rename_i e q
          refine pack fun G9 hG9 => ?_
          obtain ⟨⟨a, b⟩, h1, h2⟩ := Option.map_eq_some_iff.mp h
          refine hG9 ?_
          clear hG9
          cases h2
          obtain ⟨p, hp⟩ := lexQ_suffix n q _ _ (by simp at hn; omega) h1
          exact ⟨c :: e :: p, by rw [hp]; rfl⟩
      · refine pack fun G9 hG9 => ?_
        obtain ⟨⟨a, b⟩, h1, h2⟩ := Option.map_eq_some_iff.mp h
        refine hG9 ?_
        clear hG9
        cases h2
        obtain ⟨p, hp⟩ := lexQ_suffix n r _ _ (by simpa using hn) h1
        exact ⟨c :: p, by rw [hp]; rfl⟩
theorem lexP_suffix : ∀ (n : Nat) (cs tok rst : List Nat), cs.length ≤ n → lexP cs = some (tok, rst) → ∃ p, cs = p ++ rst
  | 0, [], _, _, _, h => by simp [lexP] at h
  | n + 1, [], _, _, _, h => by simp [lexP] at h
  | 0, _ :: _, _, _, hn, _ => by simp at hn
  | n + 1, c :: r, tok, rst, hn, h => by
    unfold lexP at h
    split at h
    · cases h; exact ⟨[c], rfl⟩
    · split at h
      · split at h
        · cases h
        · rename_i e q
          refine pack fun G9 hG9 => ?_
          obtain ⟨⟨a, b⟩, h1, h2⟩ := Option.map_eq_some_iff.mp h
          refine hG9 ?_
          clear hG9
          cases h2
          obtain ⟨p, hp⟩ := lexP_suffix n q _ _ (by simp at hn; omega) h1
          exact ⟨c :: e :: p, by rw [hp]; rfl⟩
      · refine pack fun G9 hG9 => ?_
        obtain ⟨⟨a, b⟩, h1, h2⟩ := Option.map_eq_some_iff.mp h
        refine hG9 ?_
        clear hG9
        cases h2
        obtain ⟨p, hp⟩ := lexP_suffix n r _ _ (by simpa using hn) h1
        exact ⟨c :: p, by rw [hp]; rfl⟩
theorem lexT_suffix : ∀ (cs tok rst : List Nat), lexT cs = some (tok, rst) → ∃ p, cs = p ++ rst
  | [], tok, rst, h => by simp only [lexT, Option.some.injEq, Prod.mk.injEq] at h; exact ⟨[], by rw [← h.2]; rfl⟩
  | c :: r, tok, rst, h => by
    unfold lexT at h
    split at h
    · obtain ⟨p, hp⟩ := lexT_suffix r _ _ h
      exact ⟨c :: p, by rw [hp]; rfl⟩
    · split at h
      · obtain ⟨p, hp⟩ := lexQ_suffix _ r _ _ (Nat.le_refl _) h
        exact ⟨c :: p, by rw [hp]; rfl⟩
      · split at h
        · split at h
          · cases h
          · rename_i e q
            refine pack fun G9 hG9 => ?_
            obtain ⟨⟨a, b⟩, h1, h2⟩ := Option.map_eq_some_iff.mp h
            refine hG9 ?_
            clear hG9
            cases h2
            obtain ⟨p, hp⟩ := lexP_suffix _ q _ _ (Nat.le_refl _) h1
            exact ⟨c :: e :: p, by rw [hp]; rfl⟩
        · refine pack fun G9 hG9 => ?_
          obtain ⟨⟨a, b⟩, h1, h2⟩ := Option.map_eq_some_iff.mp h
          refine hG9 ?_
          clear hG9
          cases h2
          obtain ⟨p, hp⟩ := lexP_suffix _ r _ _ (Nat.le_refl _) h1
          exact ⟨c :: p, by rw [hp]; rfl⟩
theorem nls_append : ∀ p q : List Nat, nls (p ++ q) = nls p + nls q
  | [], q => by simp [nls]
  | a :: r, q => by
    show isNl (a :: (r ++ q)) + nls (r ++ q) = isNl (a :: r) + nls r + nls q
    rw [nls_append r q, isNl_cons (q := r) rfl]; omega
noncomputable def Cur (cur rst : List Nat) (rem : List (List Nat)) : Prop := (cur = [] ∧ rem = [] ∧ rst = []) ∨ (cur ≠ [] ∧ ∃ tr, rem = cur :: tr ∧ Toks rst tr)
theorem Toks.cur {cs : List Nat} {l : List (List Nat)} (h : Toks cs l) : ∃ cur rst, lexT cs = some (cur, rst) ∧ Cur cur rst l := by
  cases h with
  | done h => exact ⟨_, _, h, .inl ⟨rfl, rfl, rfl⟩⟩
  | more h hn r => exact ⟨_, _, h, .inr ⟨hn, _, rfl, r⟩⟩
theorem Lx.Sep.led {X : Lx} {rest : List (Addr × Obj)} (h : X.Sep rest) {w line tl yl sv k ps kp} : ∀ p ∈ rest, ∀ q ∈ X.led w line tl yl sv k ps kp, p.1 ≠ q.1 := by
  intro p hp q hq
  refine pack fun G9 hG9 => ?_
  obtain ⟨a1, a2, a3, a4, a5, a6, a7, a8, a9⟩ := h p hp
  refine hG9 ?_
  clear hG9
  simp only [Lx.led, Lx.obs, Lx.rd, List.cons_append, List.nil_append, List.mem_cons, List.not_mem_nil, or_false] at hq
  rcases hq with rfl | rfl | rfl | rfl | rfl | rfl | rfl | rfl | rfl <;> assumption
theorem Lx.Ok.ctop {X : Lx} (hX : X.Ok) {b : Addr} (h : @LT.lt Nat _ X.pb b) : @LT.lt Nat _ X.c b := by
  refine pack fun G9 hG9 => ?_
  obtain ⟨o1, o2, o3, o4, o5, o6, o7, o8⟩ := hX.ord
  refine hG9 ?_
  clear hG9
  exact Nat.lt_trans o1 (Nat.lt_trans o2 (Nat.lt_trans o3 (Nat.lt_trans o4 (Nat.lt_trans o5 (Nat.lt_trans o6 (Nat.lt_trans o7 (Nat.lt_trans o8 h)))))))
theorem Lx.Ok.below {X : Lx} (hX : X.Ok) {b : Addr} (h : @LT.lt Nat _ b X.c) : b ≠ X.x ∧ b ≠ X.dx ∧ b ≠ X.y ∧ b ≠ X.dy ∧ b ≠ X.f ∧ b ≠ X.cd ∧ b ≠ X.c ∧ b ≠ X.sg ∧ b ≠ X.pb := by
  refine pack fun G9 hG9 => ?_
  obtain ⟨o1, o2, o3, o4, o5, o6, o7, o8⟩ := hX.ord
  refine hG9 ?_
  clear hG9
  have h1 := Nat.lt_trans h o1
  have h2 := Nat.lt_trans h1 o2
  have h3 := Nat.lt_trans h2 o3
  have h4 := Nat.lt_trans h3 o4
  have h5 := Nat.lt_trans h4 o5
  have h6 := Nat.lt_trans h5 o6
  have h7 := Nat.lt_trans h6 o7
  have h8 := Nat.lt_trans h7 o8
  exact ⟨Nat.ne_of_lt h7, Nat.ne_of_lt h6, Nat.ne_of_lt h5, Nat.ne_of_lt h4, Nat.ne_of_lt h3, Nat.ne_of_lt h2, Nat.ne_of_lt h, Nat.ne_of_lt h1, Nat.ne_of_lt h8⟩
theorem Lx.sep_nil {X : Lx} : X.Sep [] := fun _ h => nomatch h
theorem Lx.Ok.nine {X : Lx} (hX : X.Ok) {w line tl yl sv k ps kp} {b : Addr} (h : @LT.lt Nat _ b X.c ∨ @LT.lt Nat _ X.pb b) : ∀ p ∈ X.led w line tl yl sv k ps kp, p.1 ≠ b := by
  intro p hp
  have hs : X.Sep [(b, tabObj #[])] := fun q hq => by
    rw [List.mem_singleton.mp hq]
    exact h.elim (fun h => hX.below h) (fun h => hX.above h)
  exact Ne.symm (hs.led _ (.head _) p hp)
theorem Lx.Ok.led_le {X : Lx} (hX : X.Ok) {w : World} {line : Int} {tl : Tok} {yl : Value} {sv ps : List Value} {k kp : Nat} : ∀ p ∈ X.led w line tl yl sv k ps kp, @LE.le Nat _ p.1 X.pb := by
  refine pack fun G9 hG9 => ?_
  obtain ⟨o1, o2, o3, o4, o5, o6, o7, o8⟩ := hX.ord
  refine hG9 ?_
  clear hG9
  intro p hp
  simp only [Lx.led, Lx.obs, Lx.rd, List.cons_append, List.nil_append, List.mem_cons, List.not_mem_nil, or_false] at hp
  have h6 := Nat.lt_trans o7 o8
  have h5 := Nat.lt_trans o6 h6
  have h4 := Nat.lt_trans o5 h5
  have h3 := Nat.lt_trans o4 h4
  have h2 := Nat.lt_trans o3 h3
  have h1 := Nat.lt_trans o2 h2
  have h0 := Nat.lt_trans o1 h1
  rcases hp with rfl | rfl | rfl | rfl | rfl | rfl | rfl | rfl | rfl
  all_goals first | exact Nat.le_refl _ | exact Nat.le_of_lt (by assumption)
noncomputable abbrev Lx.hd (w : World) (X : Lx) (line : Int) (tl : Tok) : List (Addr × Obj) :=
  [(X.x, instObj 86 X.dx), (X.dx, dictOf [dE w "lineno" X.t1 (.int line tl), dE w "instream" X.t2 (.ref X.y), dE w "whitespace" X.t3 (.str (PySem.Str.ofString "\n\t\r ") X.t3'), dE w "pushback" X.t4 (.ref X.pb)] 4)]
noncomputable abbrev Lx.bk (w : World) (X : Lx) (yl : Value) (sv : List Value) (k : Nat) (ps : List Value) (kp : Nat) : List (Addr × Obj) :=
  [(X.y, instObj 86 X.dy), (X.dy, dictOf [dE w "lineno" X.u1 yl, dE w "instream" X.u2 .none, dE w "whitespace" X.u3 (.str (PySem.Str.ofString "\n\t\r ") X.u3'), dE w "pushback" X.u4 (.ref X.ypb), dE w "read" X.u5 (.ref X.f)] 5)] ++ X.rd sv k ++ [(X.pb, listOf ps.toArray kp)]
theorem perm_out {a : Addr × Obj} {led R : List (Addr × Obj)} : ∀ p ∈ led ++ a :: R, p ∈ a :: (led ++ R) := fun p hp => by
  rcases List.mem_append.mp hp with h | h
  · exact .tail _ (List.mem_append_left _ h)
  · rcases List.mem_cons.mp h with h | h
    · exact h ▸ .head _
    · exact .tail _ (List.mem_append_right _ h)
theorem perm_in {a : Addr × Obj} {led R : List (Addr × Obj)} : ∀ p ∈ a :: (led ++ R), p ∈ led ++ a :: R := fun p hp => by
  rcases List.mem_cons.mp hp with h | h
  · exact h ▸ List.mem_append_right _ (.head _)
  · rcases List.mem_append.mp h with h | h
    · exact List.mem_append_left _ h
    · exact List.mem_append_right _ (.tail _ h)
theorem lt_led {X : Lx} {w yl sv k ps kp} {D : Addr} {R : List (Addr × Obj)} (h : AllLt D (X.bk w yl sv k ps kp ++ R)) : @LT.lt Nat _ X.pb D ∧ ∀ p ∈ R, @LT.lt Nat _ p.1 D :=
  ⟨allLt_in h (X.pb, listOf ps.toArray kp) (List.mem_append_left _ (List.mem_append_right _ (.head _))), fun p hp => allLt_in h p (List.mem_append_right _ hp)⟩
set_option genSizeOf false in
set_option genInjectivity false in
structure WD where
  (dn rem : List (List Nat)) (cur rst : List Nat) (l : Addr) (vs sv : List Value) (kk k : Nat) (tl t : Tok)
structure WF (X : Lx) (toks : List (List Nat)) (cs : List Nat) (rest : List (Addr × Obj)) (d : WD) (m₁ : PySem.Str → Option Value) : Prop where
  htk : toks = d.dn ++ d.rem
  hcur : Cur d.cur d.rst d.rem
  hvs : StrsAre d.vs (d.dn.map fun t => strOf (prepC t))
  hsv : StrsAre d.sv (d.rst.map one)
  hp : ∃ p, cs = p ++ d.rst
  j1 : m₁ (PySem.Str.ofString "words") = some (.ref d.l)
  j2 : m₁ (PySem.Str.ofString "word") = some (.str (strOf d.cur) d.t)
  j3 : m₁ (PySem.Str.ofString "lexer") = some (.ref X.x)
  hrl : RestLt rest d.l
  hpl : @LT.lt Nat _ X.pb d.l
local macro_rules | `(tactic| walk_at $s:str) => if ["call ref", "exec While Compare cons nil", "eval ListComp"].contains s.getString then `(tactic| (refine stopHere ?_)) else Lean.Macro.throwUnsupported
namespace NWor
noncomputable def G (w : World) (X : Lx) (sv : List Value) (cs : List Nat) (toks : List (List Nat)) (k : Nat) (kp : Nat) (line : Int) (tl : Tok) (yl : Value) (mean : ExcName → Option Value) (mg : PySem.Str → Option Value) (mb : PySem.Str → Option Value) (dp : Nat) (un : Nat) (gd : Option (List Code)) (outer : List Env) (A₀ : Around) (base : Heap) (g : Heap) (L : Addr) (h₁ : Heap) (rest : List (Addr × Obj)) (s : Shared) (tk : Nat) : Prop :=
  (X.Ok) → (StrsAre sv (cs.map one)) → (StrsOk (cs.map one)) → (cs.length < 1000000) → (0 ≤ line) → (line + nls cs < 2 ^ 39) → (Toks cs toks) → (∀ tok ∈ toks, ∀ c ∈ tok, c ∈ theSigns) → (toks.length < 1000) → (∀ tok ∈ toks, tok.length < 1000) → PlainH w 178 (PySem.Str.ofString "_law_words") bd17 sc17 (.ref 177) [(PySem.Str.ofString "lexer", .ref X.x)] 60 600 ((X.led w line tl yl sv k [] kp)) (fun r E' => ∃ l vs kk k' tl', r = .ref l ∧ @LT.lt Nat _ X.pb l ∧ StrsAre vs (toks.map fun t => strOf (prepC t)) ∧ E' = (l, listOf vs.toArray kk) :: X.led w (line + nls cs) tl' yl [] k' [] kp) mean mg mb dp un gd outer A₀ base g L h₁ rest s tk
noncomputable abbrev D : Type := (World) × (Lx) × (List Value) × (List Nat) × (List (List Nat)) × (Nat) × (Nat) × (Int) × (Tok) × (Value) × (ExcName → Option Value) × (PySem.Str → Option Value) × (PySem.Str → Option Value) × (Nat) × (Nat) × (Option (List Code)) × (List Env) × (Around) × (Heap) × (Heap) × (Addr) × (Heap) × (List (Addr × Obj)) × (Shared) × (Nat)
theorem ne : Nonempty D := ⟨⟨w0, { c := 0, sg := 0, cd := 0, f := 0, dy := 0, y := 0, ypb := 0, dx := 0, x := 0, pb := 0, t1 := 0, t2 := 0, t3 := 0, t3' := 0, t4 := 0, u1 := 0, u2 := 0, u3 := 0, u3' := 0, u4 := 0, u5 := 0, lt0 := 0, qual := default, doc := .none, pm := .none, ctv := .none, oc := default, ocell := default, vs := #[], tq := 0, nm := default, pa := default, bo := [], sc := default }, [], [], [], 0, 0, 0, 0, .none, fun _ => none, fun _ => none, fun _ => none, 0, 0, none, [], {}, default, default, 0, default, [], {}, 0⟩⟩
noncomputable abbrev H (d : D) : Prop := G d.1 d.2.1 d.2.2.1 d.2.2.2.1 d.2.2.2.2.1 d.2.2.2.2.2.1 d.2.2.2.2.2.2.1 d.2.2.2.2.2.2.2.1 d.2.2.2.2.2.2.2.2.1 d.2.2.2.2.2.2.2.2.2.1 d.2.2.2.2.2.2.2.2.2.2.1 d.2.2.2.2.2.2.2.2.2.2.2.1 d.2.2.2.2.2.2.2.2.2.2.2.2.1 d.2.2.2.2.2.2.2.2.2.2.2.2.2.1 d.2.2.2.2.2.2.2.2.2.2.2.2.2.2.1 d.2.2.2.2.2.2.2.2.2.2.2.2.2.2.2.1 d.2.2.2.2.2.2.2.2.2.2.2.2.2.2.2.2.1 d.2.2.2.2.2.2.2.2.2.2.2.2.2.2.2.2.2.1 d.2.2.2.2.2.2.2.2.2.2.2.2.2.2.2.2.2.2.1 d.2.2.2.2.2.2.2.2.2.2.2.2.2.2.2.2.2.2.2.1 d.2.2.2.2.2.2.2.2.2.2.2.2.2.2.2.2.2.2.2.2.1 d.2.2.2.2.2.2.2.2.2.2.2.2.2.2.2.2.2.2.2.2.2.1 d.2.2.2.2.2.2.2.2.2.2.2.2.2.2.2.2.2.2.2.2.2.2.1 d.2.2.2.2.2.2.2.2.2.2.2.2.2.2.2.2.2.2.2.2.2.2.2.1 d.2.2.2.2.2.2.2.2.2.2.2.2.2.2.2.2.2.2.2.2.2.2.2.2
@[irreducible] noncomputable def d : D := @Classical.epsilon D ne fun d => ¬ H d
@[irreducible] noncomputable def w : World := d.1
@[irreducible] noncomputable def X : Lx := d.2.1
@[irreducible] noncomputable def sv : List Value := d.2.2.1
@[irreducible] noncomputable def cs : List Nat := d.2.2.2.1
@[irreducible] noncomputable def toks : List (List Nat) := d.2.2.2.2.1
@[irreducible] noncomputable def k : Nat := d.2.2.2.2.2.1
@[irreducible] noncomputable def kp : Nat := d.2.2.2.2.2.2.1
@[irreducible] noncomputable def line : Int := d.2.2.2.2.2.2.2.1
@[irreducible] noncomputable def tl : Tok := d.2.2.2.2.2.2.2.2.1
@[irreducible] noncomputable def yl : Value := d.2.2.2.2.2.2.2.2.2.1
@[irreducible] noncomputable def mean : ExcName → Option Value := d.2.2.2.2.2.2.2.2.2.2.1
@[irreducible] noncomputable def mg : PySem.Str → Option Value := d.2.2.2.2.2.2.2.2.2.2.2.1
@[irreducible] noncomputable def mb : PySem.Str → Option Value := d.2.2.2.2.2.2.2.2.2.2.2.2.1
@[irreducible] noncomputable def dp : Nat := d.2.2.2.2.2.2.2.2.2.2.2.2.2.1
@[irreducible] noncomputable def un : Nat := d.2.2.2.2.2.2.2.2.2.2.2.2.2.2.1
@[irreducible] noncomputable def gd : Option (List Code) := d.2.2.2.2.2.2.2.2.2.2.2.2.2.2.2.1
@[irreducible] noncomputable def outer : List Env := d.2.2.2.2.2.2.2.2.2.2.2.2.2.2.2.2.1
@[irreducible] noncomputable def A₀ : Around := d.2.2.2.2.2.2.2.2.2.2.2.2.2.2.2.2.2.1
@[irreducible] noncomputable def base : Heap := d.2.2.2.2.2.2.2.2.2.2.2.2.2.2.2.2.2.2.1
@[irreducible] noncomputable def g : Heap := d.2.2.2.2.2.2.2.2.2.2.2.2.2.2.2.2.2.2.2.1
@[irreducible] noncomputable def L : Addr := d.2.2.2.2.2.2.2.2.2.2.2.2.2.2.2.2.2.2.2.2.1
@[irreducible] noncomputable def h₁ : Heap := d.2.2.2.2.2.2.2.2.2.2.2.2.2.2.2.2.2.2.2.2.2.1
@[irreducible] noncomputable def rest : List (Addr × Obj) := d.2.2.2.2.2.2.2.2.2.2.2.2.2.2.2.2.2.2.2.2.2.2.1
@[irreducible] noncomputable def s : Shared := d.2.2.2.2.2.2.2.2.2.2.2.2.2.2.2.2.2.2.2.2.2.2.2.1
@[irreducible] noncomputable def tk : Nat := d.2.2.2.2.2.2.2.2.2.2.2.2.2.2.2.2.2.2.2.2.2.2.2.2
set_option maxRecDepth 100000 in
set_option maxHeartbeats 4000000 in
theorem core : mark PySem.Challenge.rw_us0019_01 K01 (G w X sv cs toks k kp line tl yl mean mg mb dp un gd outer A₀ base g L h₁ rest s tk) := by
  k_fill
  unfold mark G PlainH
  (try dsimp only [pa17, bd17, sc17])
  intro hX hsv hok hlen hl0 hl1 ht hsig htl hlt
  intro B K T F N hR hE hsep hd hu
  obtain ⟨R0, hR0⟩ : ∃ R0, R0 = X.bk w yl sv k [] kp ++ rest := ⟨_, rfl⟩
  replace N : News g L h₁ (X.hd w line tl ++ R0) := by subst hR0; exact N
  simp only [Lx.hd, List.cons_append, List.nil_append] at N
  refine pack fun G9 hG9 => ?_
  obtain ⟨cur, rst, hlx, hcur⟩ := ht.cur
  obtain ⟨pre, hpre⟩ := lexT_suffix _ _ _ hlx
  refine hG9 ?_
  clear hG9
  have hS : X.Sep rest := Lx.sep_of hsep
  k_steps
  unfold Stop
  rename Fr _ _ _ _ => F9
  rename News _ _ _ ((_, _) :: _) => N9
  rename_i lw _ l1 _
  obtain ⟨hplw, hrlw⟩ := lt_led (hR0 ▸ l1.2.2)
  clear l1
  refine spec_use (get_token (w := w) X hX (line := line) (tl := tl) (yl := yl) (k := k) (kp := kp) hsv hok hlen hl0 hl1 hlx) ((lw, listOf [].toArray 0) :: rest) B F9 K N9 T rfl (by omega) (by omega) (by subst hR0; exact perm_out) ((hS.cons (hX.above hplw)).led) ?_
  intro r E' h' tk' hPk1 F' N' hn'
  refine pack fun G9 hG9 => ?_
  obtain ⟨sv', k', t', tl', rfl, hsv', rfl⟩ := hPk1
  refine hG9 ?_
  clear hG9
  k_steps
  unfold Stop
  rename Fr _ _ _ _ => F8
  rename News _ _ _ _ => N8
  refine While_inv (fun n m₁ news₁ => ∃ d : WD, n = d.rem.length ∧ WF X toks cs rest d m₁ ∧
    news₁ = (d.l, listOf d.vs.toArray d.kk) :: (X.led w (line + nls cs - nls d.rst) d.tl yl d.sv d.k [] kp ++ rest)) (n₀ := toks.length) F8 (news_sub N8 perm_in) ?start ?turn
  case start =>
    exact ⟨⟨[], toks, cur, rst, lw, [], sv', 0, k', tl', _⟩, rfl, ⟨rfl, hcur, .nil, hsv', ⟨pre, hpre⟩, rfl, rfl, rfl, hrlw, hplw⟩, rfl⟩
  case turn =>
    intro n m₁ news₁ h₁ tk₁ F₁ N₁ hPk2
    refine pack fun G9 hG9 => ?_
    obtain ⟨⟨dn, rem, cur, rst, l, vs, sv, kk, k, tl, t⟩, rfl, ⟨htk, hcur, hvs, hsv, ⟨p, hp⟩, j1, j2, j3, hrl, hpl⟩, rfl⟩ := hPk2
    refine hG9 ?_
    clear hG9
    dsimp only at *
    clear F8 N8 hn' hsv' hlx
    rw [nm1 j3, under (nm1 j2), under (under (nm1 j1))] at F₁
    obtain ⟨R9, hR9⟩ : ∃ R9, R9 = X.led w (line + nls cs - nls rst) tl yl sv k [] kp ++ rest := ⟨_, rfl⟩
    have hLl : ∀ p ∈ R9, p.1 ≠ l := by
      subst hR9
      intro p hp
      rcases List.mem_append.mp hp with hp | hp
      · exact hX.nine (.inr hpl) p hp
      · exact Nat.ne_of_lt (hrl p hp)
    rw [← hR9] at N₁
    k_steps
    · unfold Stop
      have hcl : cur.length < 1000 := by
        rcases hcur with ⟨rfl, _, _⟩ | ⟨_, tr, rfl, _⟩
        · decide
        · exact hlt cur (by rw [htk]; simp)
      refine ListComp_TS (h₀ := g) (L := L) (m := fun y => if y = PySem.Str.ofString "lexer" then some (.ref X.x) else if y = PySem.Str.ofString "word" then some (.str (strOf cur) t) else if y = PySem.Str.ofString "words" then some (.ref l) else m₁ y) (by rfl) (by decide) (by rfl) (by decide) (by rfl) ?_
      k_steps
      refine ⟨strOf cur, t, _, rfl, rfl, F₁, N₁, ?sz, ?run⟩
      case sz =>
       rw [show (strOf cur).cps.size = cur.length by simp [strOf], sizeLine_eq]
       omega
      case run =>
       intro s₂ hPk3
       refine pack fun G9 hG9 => ?_
       obtain ⟨hg, rfl⟩ := hPk3
       refine hG9 ?_
       clear hG9
       have hcs : ∀ c ∈ cur, c ∈ theSigns := by
         rcases hcur with ⟨rfl, _, _⟩ | ⟨_, tr, rfl, _⟩
         · exact fun _ h => nomatch h
         · exact hsig cur (by rw [htk]; simp)
       refine comp_restT (strOf cur).cps.size (fun i ys nl => StrsAre ys (((cur.take i).filter fun c => !dropped c).map mapped) ∧ nl = (l, listOf vs.toArray kk) :: R9) ?fin ?turn2 _ 0 [] _ rfl ⟨.nil, rfl⟩
       case turn2 =>
         intro i ys nl v I oI C oC D m₂ h tk E' hi hPk4 hPk5 hoC hm F N off ne
         refine pack fun G9 hG9 => ?_
         obtain ⟨hys, rfl⟩ := hPk4
         obtain ⟨c, u, hc, rfl⟩ := hPk5
         refine hG9 ?_
         clear hG9
         clear F₁ N₁
         have hci : cur[i]? = some c := by simpa [strOf] using hc
         have hcm : c ∈ theSigns := hcs c (List.mem_of_getElem? hci)
         have htake : cur.take (i + 1) = cur.take i ++ [c] := by rw [List.take_add_one, hci]; rfl
         k_steps
         unfold Stop
         rename Fr _ _ _ _ => F
         rename News _ _ _ _ => N
         refine spec_use (in_b1 (w := w) c u hcm) _ B F K N T rfl (by omega) (by omega) (fun _ hp => hp) sep_nil ?_
         intro r E' h' tk' hPk6 F' N' _
         refine pack fun G9 hG9 => ?_
         obtain ⟨rfl, rfl⟩ := hPk6
         refine hG9 ?_
         clear hG9
         simp only [List.nil_append] at N'
         cases hdc : dropped c with
         | false =>
           k_steps
           unfold Stop
           rename Fr _ _ _ _ => F'
           rename News _ _ _ _ => N'
           refine spec_use (map_b3 (w := w) c u hcm hdc) _ B F' K N' T rfl (by omega) (by omega) (fun _ hp => hp) sep_nil ?_
           intro r E' h' tk' hPk7 F' N' _
           refine pack fun G9 hG9 => ?_
           obtain ⟨t', rfl, rfl⟩ := hPk7
           refine hG9 ?_
           clear hG9
           simp only [List.nil_append] at N'
           refine LCg.CompEnd.intro F' N' _ (fun _ hp => hp) off trivial ⟨?_, rfl⟩
           rw [htake, List.filter_append, List.map_append, show ([c].filter fun c => !dropped c) = [c] by simp [hdc]]
           exact strsAre_snoc hys
         | true =>
           k_steps
           refine LCg.CompEnd.intro (by assumption) (by assumption) _ (fun _ hp => hp) off trivial ⟨?_, rfl⟩
           rw [htake, List.filter_append, List.map_append, show ([c].filter fun c => !dropped c) = [] by simp [hdc], List.map_nil, List.append_nil]
           exact hys
       case fin =>
         intro ys nl hPk8
         refine pack fun G9 hG9 => ?_
         obtain ⟨hys, rfl⟩ := hPk8
         refine hG9 ?_
         clear hG9
         unfold LCg.FinE
         intro D h tk F N o1
         clear F₁ N₁
         rw [show cur.take (strOf cur).cps.size = cur by simp [strOf]] at hys
         k_steps
         refine join_list (x := PySem.Str.ofString "") (News.isList N (.head _)) (ys := (((cur.filter fun c => !dropped c).map mapC).map strOf)) (by rw [List.map_map]; exact (funext mapped_eq : mapped = strOf ∘ mapC) ▸ hys) ?_ ?_
         · have h1 := len_flat 2 ((cur.filter fun c => !dropped c).map mapC) (fun a ha => by obtain ⟨c, _, rfl⟩ := List.mem_map.mp ha; exact mapC_len c)
           have h2 : (cur.filter fun c => !dropped c).length ≤ cur.length := List.length_filter_le _ _
           rw [List.length_map] at h1
           rw [List.length_map, List.length_map, show (PySem.Str.ofString "").length = 0 by decide +kernel]
           omega
         intro t9 k9
         rw [txt_join (by decide +kernel), ← List.flatMap_def]
         replace N := news_sub N (l' := (l, listOf vs.toArray kk) :: R9) (fun _ hp => .tail _ hp)
         have hvl : vs.length < 1000 := by
           have := hvs.length
           rw [List.length_map] at this
           rw [htk, List.length_append] at htl
           omega
         k_steps
         rename Fr _ _ _ _ => F7
         rename News _ _ _ _ => N7
         rw [List.push_toArray] at N7
         rcases hcur with ⟨rfl, _, _⟩ | ⟨hcn, tr, rfl, htr⟩
         · rename (strOf [] != _) = true => h9
           exact absurd h9 (by decide +kernel)
         refine pack fun G9 hG9 => ?_
         obtain ⟨cur2, rst2, hlx2, hcur2⟩ := htr.cur
         obtain ⟨pre2, hpre2⟩ := lexT_suffix _ _ _ hlx2
         refine hG9 ?_
         clear hG9
         have hns : nls cs = nls p + nls rst := by rw [hp, nls_append]
         have hnp := nls_ge (l := p)
         have hnr := nls_ge (l := rst)
         obtain ⟨R8, hR8⟩ : ∃ R8, R8 = X.bk w yl sv k [] kp ++ rest := ⟨_, rfl⟩
         replace N7 := news_sub (l' := (l, listOf (vs ++ [Value.str (strOf (List.flatMap mapC (List.filter (fun c => !dropped c) cur))) t9]).toArray (kk + 1)) :: (X.hd w (line + nls cs - nls rst) tl ++ R8)) N7 (by subst hR8 hR9; exact fun _ h => h)
         simp only [Lx.hd, List.cons_append, List.nil_append] at N7
         k_steps
         unfold Stop
         refine spec_use (get_token (w := w) X hX (line := line + nls cs - nls rst) (tl := tl) (yl := yl) (k := k) (kp := kp) hsv (fun x hx => hok x (by rw [hp, List.map_append]; exact List.mem_append_right _ hx)) (by rw [hp, List.length_append] at hlen; omega) (by omega) (by omega) hlx2) ((l, listOf (vs ++ [Value.str (strOf (List.flatMap mapC (List.filter (fun c => !dropped c) cur))) t9]).toArray (kk + 1)) :: rest) B F7 K N7 T rfl (by omega) (by omega) (by subst hR8; exact perm_out) ((hS.cons (hX.above hpl)).led) ?_
         intro r E' h' tk' hPk9 F' N' hn'
         refine pack fun G9 hG9 => ?_
         obtain ⟨sv', k', t', tl', rfl, hsv', rfl⟩ := hPk9
         refine hG9 ?_
         clear hG9
         k_steps
         refine WhileStep.intro (n' := tr.length) (by assumption) (news_sub (by assumption) (l' := (l, listOf (vs ++ [Value.str (strOf (List.flatMap mapC (List.filter (fun c => !dropped c) cur))) t9]).toArray (kk + 1)) :: (X.led w (line + nls cs - nls rst2) tl' yl sv' k' [] kp ++ rest)) ?mem) (by simp) ?_
         case mem =>
           rw [show line + nls cs - nls rst2 = line + nls cs - nls rst + nls rst - nls rst2 by omega]
           exact perm_in
         refine ⟨⟨dn ++ [cur], tr, cur2, rst2, l, _, sv', kk + 1, k', tl', t'⟩, rfl, ⟨by rw [htk]; simp, hcur2, ?_, hsv', ⟨p ++ pre2, by rw [hp, hpre2, List.append_assoc]⟩, rfl, rfl, rfl, hrl, hpl⟩, rfl⟩
         rw [List.map_append]
         exact strsAre_snoc hvs
    · subst hR9
      rcases hcur with ⟨rfl, rfl, rfl⟩ | ⟨hcn, tr, rfl, htr⟩
      · dsimp only
        rw [List.append_nil] at htk
        subst htk
        rw [show nls [] = 0 from rfl, Int.sub_zero] at N₁
        cases hsv
        exact Back.intro ((l, listOf vs.toArray kk) :: X.led w (line + nls cs) tl yl [] k [] kp) (by assumption) (by assumption) ⟨l, vs, kk, k, tl, rfl, hpl, hvs, rfl⟩ (NewOk.cons (fun q hq => by
          rcases List.mem_append.mp hq with hq | hq
          · exact Nat.lt_of_le_of_lt (hX.led_le q hq) hpl
          · exact hrl q hq) (NewOk.same rfl))
      · rename (strOf cur != _) = false => h9
        exact absurd (strOf_inj (by rw [← strOf_nil]; exact bne_eq_false_iff_eq.mp h9)) hcn
theorem all (d : D) : H d := by
  refine eps_all ne H ?_ d
  have h := core
  unfold mark w X sv cs toks k kp line tl yl mean mg mb dp un gd outer A₀ base g L h₁ rest s tk NWor.d at h
  exact h
end NWor
set_option maxRecDepth 100000 in
set_option maxHeartbeats 4000000 in
theorem law_words {w : World} (X : Lx) (hX : X.Ok) {sv : List Value} {cs : List Nat} {toks : List (List Nat)} {k kp : Nat} {line : Int} {tl : Tok} {yl : Value} (hsv : StrsAre sv (cs.map one)) (hok : StrsOk (cs.map one)) (hlen : cs.length < 1000000) (hl0 : 0 ≤ line) (hl1 : line + nls cs < 2 ^ 39)
    (ht : Toks cs toks) (hsig : ∀ tok ∈ toks, ∀ c ∈ tok, c ∈ theSigns) (htl : toks.length < 1000) (hlt : ∀ tok ∈ toks, tok.length < 1000) : mark PySem.Challenge.rw_us0019_01 K01
   (Spec w 178 [.ref X.x] [] 60 600 (X.led w line tl yl sv k [] kp)
     fun r E' => ∃ l vs kk k' tl', r = .ref l ∧ @LT.lt Nat _ X.pb l ∧ StrsAre vs (toks.map fun t => strOf (prepC t)) ∧ E' = (l, listOf vs.toArray kk) :: X.led w (line + nls cs) tl' yl [] k' [] kp) := by
  ((k_fill; unfold mark; (k_dflt (refine' spec_plain ?ho ?hcd ?hd1 ?hb ?hl ?hco ?hg ?hk ?hce ?_; (case ho => k_is); (case hcd => k_is); (case hd1 => decide); (case hb => intro _ KX; first | exact BindsTo.of_eq rfl | exact binds_K KX rfl (by k_is) rfl rfl rfl); (case hl => exact locs rfl); (case hco => exact rfl); (case hg => exact rfl); (case hk => exact rfl); (case hce => decide)); (try dsimp only [pa17, bd17, sc17]))))
  intro mean mg mb dp un gd outer A₀ base g L h₁ rest s tk
  exact NWor.all ⟨w, X, sv, cs, toks, k, kp, line, tl, yl, mean, mg, mb, dp, un, gd, outer, A₀, base, g, L, h₁, rest, s, tk⟩ hX hsv hok hlen hl0 hl1 ht hsig htl hlt
end
section
theorem isStrOf_at {k : PySem.Str} : ∀ {vs : List Value} {ys : List PySem.Str}, StrsAre vs ys → ∀ (j : Nat) (h : j < vs.length) (h' : j < ys.length), isStrOf k vs[j] = (ys[j] == k)
  | _, _, .cons x t r, 0, _, _ => by
    show isStrOf k (.str x t) = (x == k)
    simp [isStrOf]
  | _, _, .cons x t r, j + 1, h, h' => by
    simp only [List.getElem_cons_succ]
    exact isStrOf_at r j _ _
section
variable {prog : Program} {w : World} {A : Around} {E : Value → Shared → Prop} {s : Shared}
theorem index_strs {l : Addr} {vs : List Value} {ns : List PySem.Str} {k : PySem.Str} {t : Tok} {Q : Value → Shared → Prop} (hl : s.heap.IsList l vs.toArray) (hi : StrsAre vs ns)
    (hb : ns.length < 1000000) (hk : k ∈ ns) (h : Q (.int (ns.idxOf k : Nat) s.toks) { s with toks := s.toks + 1 }) :
    wpAny (model prog w) A (call (.builtin "list.index") [.ref l, .str k t]) Q E s := by
  refine pack fun G9 hG9 => ?_
  obtain ⟨⟨cls, dd, data, sl⟩, ho, hc, n, hd⟩ := id hl
  refine hG9 ?_
  clear hG9
  simp only at hc hd
  subst hc hd
  have hlen := hi.length
  have hj : ns.idxOf k < ns.length := List.idxOf_lt_length_iff.mpr hk
  refine call_meets PySem.F.slot_list_index ⟨_, ho, rfl⟩ PySem.F.entry_list_index (PySem.F.args_list_index_2 _ _)
    (PySem.SeqAt.list_indexAt l vs.toArray n dd sl (.str k t) (isStrOf k) (ns.idxOf k) (by simpa [hlen] using hj) (by omega) ?_ ?_) ⟨ho, fun y hy => (eq_isStrOf k t hi y (by simpa using hy)).at _ _, h⟩
  · show isStrOf k vs[ns.idxOf k] = true
    rw [isStrOf_at hi _ (by omega) hj]
    simp
  · intro j hjs hlt
    show isStrOf k vs[j] = false
    rw [isStrOf_at hi _ (by simpa using hjs) (by omega)]
    have := List.not_of_lt_findIdx (p := (· == k)) (xs := ns) (i := j) hlt
    simpa using this
end
end
section
local macro_rules | `(tactic| walk_at "no such") => `(tactic| skip)
noncomputable def rowStep (st : List PySem.Str × List Nat) (x : PySem.Str) : List PySem.Str × List Nat :=
  let ns := if st.1.any (· == x) then st.1 else st.1 ++ [x]
  (ns, st.2 ++ [97 + ns.idxOf x])
noncomputable def rowOf (ws : List PySem.Str) : List PySem.Str × List Nat := ws.foldl rowStep ([], [])
theorem rowOf_snoc (ws : List PySem.Str) (x : PySem.Str) : rowOf (ws ++ [x]) = rowStep (rowOf ws) x := by unfold rowOf; rw [List.foldl_append]; rfl
theorem rowOf_len : ∀ (n : Nat) (ws : List PySem.Str), ws.length = n → (rowOf ws).1.length ≤ n ∧ (rowOf ws).2.length = n
  | 0, ws, h => by rw [List.length_eq_zero_iff.mp h]; exact ⟨Nat.le_refl _, rfl⟩
  | n + 1, ws, h => by
    obtain ⟨l, x, rfl⟩ : ∃ l x, ws = l ++ [x] := by
      rcases List.eq_nil_or_concat ws with rfl | ⟨l, x, rfl⟩
      · cases h
      · exact ⟨l, x, by rw [List.concat_eq_append]⟩
    have := rowOf_len n l (by simpa using h)
    rw [rowOf_snoc]
    unfold rowStep
    dsimp only
    refine ⟨?_, by simp [this.2]⟩
    split
    · omega
    · simp only [List.length_append, List.length_singleton]; omega
set_option genSizeOf false in
set_option genInjectivity false in
structure RD where
  (nv pv : List Value) (kn kp' : Nat) (t : Tok)
structure RF (X : Lx) (na : Addr) (ws : List PySem.Str) (d : RD) (m : PySem.Str → Option Value) : Prop where
  j1 : m (PySem.Str.ofString "names") = some (.ref na)
  j2 : m (PySem.Str.ofString "row") = some (.str (strOf (rowOf ws).2) d.t)
  j3 : m (PySem.Str.ofString "lexer") = some (.ref X.x)
  j4 : StrsAre d.nv (rowOf ws).1
  j5 : StrsAre d.pv (rowOf ws).1
theorem perm_r1 {a b c : Addr × Obj} {led R : List (Addr × Obj)} : ∀ p ∈ led ++ a :: b :: c :: R, p ∈ a :: b :: c :: (led ++ R) := fun p hp => by
  rcases List.mem_append.mp hp with h | h
  · exact .tail _ (.tail _ (.tail _ (List.mem_append_left _ h)))
  · rcases List.mem_cons.mp h with h | h
    · exact h ▸ .head _
    · rcases List.mem_cons.mp h with h | h
      · exact h ▸ .tail _ (.head _)
      · rcases List.mem_cons.mp h with h | h
        · exact h ▸ .tail _ (.tail _ (.head _))
        · exact .tail _ (.tail _ (.tail _ (List.mem_append_right _ h)))
theorem perm_r2 {a b c : Addr × Obj} {led R : List (Addr × Obj)} : ∀ p ∈ a :: b :: c :: (led ++ R), p ∈ led ++ a :: b :: c :: R := fun p hp => by
  rcases List.mem_cons.mp hp with h | h
  · exact h ▸ List.mem_append_right _ (.head _)
  · rcases List.mem_cons.mp h with h | h
    · exact h ▸ List.mem_append_right _ (.tail _ (.head _))
    · rcases List.mem_cons.mp h with h | h
      · exact h ▸ List.mem_append_right _ (.tail _ (.tail _ (.head _)))
      · rcases List.mem_append.mp h with h | h
        · exact List.mem_append_left _ h
        · exact List.mem_append_right _ (.tail _ (.tail _ (.tail _ h)))
local macro_rules | `(tactic| walk_at $s:str) => if ["call ref", "pyIter ref"].contains s.getString then `(tactic| (refine stopHere ?_)) else Lean.Macro.throwUnsupported
local macro_rules | `(tactic| walk_at "exec For") => `(tactic| (refine For_it ?_))
namespace NRow
noncomputable def G (w : World) (X : Lx) (wl : Addr) (wv : List Value) (sv : List Value) (ws : List PySem.Str) (kw : Nat) (k : Nat) (kp : Nat) (line : Int) (tl : Tok) (yl : Value) (mean : ExcName → Option Value) (mg : PySem.Str → Option Value) (mb : PySem.Str → Option Value) (dp : Nat) (un : Nat) (gd : Option (List Code)) (outer : List Env) (A₀ : Around) (base : Heap) (g : Heap) (L : Addr) (h₁ : Heap) (rest : List (Addr × Obj)) (s : Shared) (tk : Nat) : Prop :=
  (X.Ok) → (StrsAre wv ws) → (ws.length < 100) → (@LT.lt Nat _ X.pb wl) → PlainH w 185 (PySem.Str.ofString "_law_row") bd18 sc18 (.ref 184) [(PySem.Str.ofString "words", .ref wl), (PySem.Str.ofString "lexer", .ref X.x)] 50 500 (((wl, listOf wv.toArray kw) :: X.led w line tl yl sv k [] kp)) (fun r E' => ∃ t nv kp', r = .str (strOf (rowOf ws).2) t ∧ StrsAre nv (rowOf ws).1 ∧ E' = (wl, listOf wv.toArray kw) :: X.led w line tl yl sv k nv kp') mean mg mb dp un gd outer A₀ base g L h₁ rest s tk
noncomputable abbrev D : Type := (World) × (Lx) × (Addr) × (List Value) × (List Value) × (List PySem.Str) × (Nat) × (Nat) × (Nat) × (Int) × (Tok) × (Value) × (ExcName → Option Value) × (PySem.Str → Option Value) × (PySem.Str → Option Value) × (Nat) × (Nat) × (Option (List Code)) × (List Env) × (Around) × (Heap) × (Heap) × (Addr) × (Heap) × (List (Addr × Obj)) × (Shared) × (Nat)
theorem ne : Nonempty D := ⟨⟨w0, { c := 0, sg := 0, cd := 0, f := 0, dy := 0, y := 0, ypb := 0, dx := 0, x := 0, pb := 0, t1 := 0, t2 := 0, t3 := 0, t3' := 0, t4 := 0, u1 := 0, u2 := 0, u3 := 0, u3' := 0, u4 := 0, u5 := 0, lt0 := 0, qual := default, doc := .none, pm := .none, ctv := .none, oc := default, ocell := default, vs := #[], tq := 0, nm := default, pa := default, bo := [], sc := default }, 0, [], [], [], 0, 0, 0, 0, 0, .none, fun _ => none, fun _ => none, fun _ => none, 0, 0, none, [], {}, default, default, 0, default, [], {}, 0⟩⟩
noncomputable abbrev H (d : D) : Prop := G d.1 d.2.1 d.2.2.1 d.2.2.2.1 d.2.2.2.2.1 d.2.2.2.2.2.1 d.2.2.2.2.2.2.1 d.2.2.2.2.2.2.2.1 d.2.2.2.2.2.2.2.2.1 d.2.2.2.2.2.2.2.2.2.1 d.2.2.2.2.2.2.2.2.2.2.1 d.2.2.2.2.2.2.2.2.2.2.2.1 d.2.2.2.2.2.2.2.2.2.2.2.2.1 d.2.2.2.2.2.2.2.2.2.2.2.2.2.1 d.2.2.2.2.2.2.2.2.2.2.2.2.2.2.1 d.2.2.2.2.2.2.2.2.2.2.2.2.2.2.2.1 d.2.2.2.2.2.2.2.2.2.2.2.2.2.2.2.2.1 d.2.2.2.2.2.2.2.2.2.2.2.2.2.2.2.2.2.1 d.2.2.2.2.2.2.2.2.2.2.2.2.2.2.2.2.2.2.1 d.2.2.2.2.2.2.2.2.2.2.2.2.2.2.2.2.2.2.2.1 d.2.2.2.2.2.2.2.2.2.2.2.2.2.2.2.2.2.2.2.2.1 d.2.2.2.2.2.2.2.2.2.2.2.2.2.2.2.2.2.2.2.2.2.1 d.2.2.2.2.2.2.2.2.2.2.2.2.2.2.2.2.2.2.2.2.2.2.1 d.2.2.2.2.2.2.2.2.2.2.2.2.2.2.2.2.2.2.2.2.2.2.2.1 d.2.2.2.2.2.2.2.2.2.2.2.2.2.2.2.2.2.2.2.2.2.2.2.2.1 d.2.2.2.2.2.2.2.2.2.2.2.2.2.2.2.2.2.2.2.2.2.2.2.2.2.1 d.2.2.2.2.2.2.2.2.2.2.2.2.2.2.2.2.2.2.2.2.2.2.2.2.2.2
@[irreducible] noncomputable def d : D := @Classical.epsilon D ne fun d => ¬ H d
@[irreducible] noncomputable def w : World := d.1
@[irreducible] noncomputable def X : Lx := d.2.1
@[irreducible] noncomputable def wl : Addr := d.2.2.1
@[irreducible] noncomputable def wv : List Value := d.2.2.2.1
@[irreducible] noncomputable def sv : List Value := d.2.2.2.2.1
@[irreducible] noncomputable def ws : List PySem.Str := d.2.2.2.2.2.1
@[irreducible] noncomputable def kw : Nat := d.2.2.2.2.2.2.1
@[irreducible] noncomputable def k : Nat := d.2.2.2.2.2.2.2.1
@[irreducible] noncomputable def kp : Nat := d.2.2.2.2.2.2.2.2.1
@[irreducible] noncomputable def line : Int := d.2.2.2.2.2.2.2.2.2.1
@[irreducible] noncomputable def tl : Tok := d.2.2.2.2.2.2.2.2.2.2.1
@[irreducible] noncomputable def yl : Value := d.2.2.2.2.2.2.2.2.2.2.2.1
@[irreducible] noncomputable def mean : ExcName → Option Value := d.2.2.2.2.2.2.2.2.2.2.2.2.1
@[irreducible] noncomputable def mg : PySem.Str → Option Value := d.2.2.2.2.2.2.2.2.2.2.2.2.2.1
@[irreducible] noncomputable def mb : PySem.Str → Option Value := d.2.2.2.2.2.2.2.2.2.2.2.2.2.2.1
@[irreducible] noncomputable def dp : Nat := d.2.2.2.2.2.2.2.2.2.2.2.2.2.2.2.1
@[irreducible] noncomputable def un : Nat := d.2.2.2.2.2.2.2.2.2.2.2.2.2.2.2.2.1
@[irreducible] noncomputable def gd : Option (List Code) := d.2.2.2.2.2.2.2.2.2.2.2.2.2.2.2.2.2.1
@[irreducible] noncomputable def outer : List Env := d.2.2.2.2.2.2.2.2.2.2.2.2.2.2.2.2.2.2.1
@[irreducible] noncomputable def A₀ : Around := d.2.2.2.2.2.2.2.2.2.2.2.2.2.2.2.2.2.2.2.1
@[irreducible] noncomputable def base : Heap := d.2.2.2.2.2.2.2.2.2.2.2.2.2.2.2.2.2.2.2.2.1
@[irreducible] noncomputable def g : Heap := d.2.2.2.2.2.2.2.2.2.2.2.2.2.2.2.2.2.2.2.2.2.1
@[irreducible] noncomputable def L : Addr := d.2.2.2.2.2.2.2.2.2.2.2.2.2.2.2.2.2.2.2.2.2.2.1
@[irreducible] noncomputable def h₁ : Heap := d.2.2.2.2.2.2.2.2.2.2.2.2.2.2.2.2.2.2.2.2.2.2.2.1
@[irreducible] noncomputable def rest : List (Addr × Obj) := d.2.2.2.2.2.2.2.2.2.2.2.2.2.2.2.2.2.2.2.2.2.2.2.2.1
@[irreducible] noncomputable def s : Shared := d.2.2.2.2.2.2.2.2.2.2.2.2.2.2.2.2.2.2.2.2.2.2.2.2.2.1
@[irreducible] noncomputable def tk : Nat := d.2.2.2.2.2.2.2.2.2.2.2.2.2.2.2.2.2.2.2.2.2.2.2.2.2.2
set_option maxRecDepth 100000 in
set_option maxHeartbeats 4000000 in
theorem core : mark PySem.Challenge.rw_us0019_01 K01 (G w X wl wv sv ws kw k kp line tl yl mean mg mb dp un gd outer A₀ base g L h₁ rest s tk) := by
  k_fill
  unfold mark G PlainH
  (try dsimp only [pa18, bd18, sc18])
  intro hX hw hlen hord
  intro B K T F N hR hE hsep hd hu
  obtain ⟨R0, hR0⟩ : ∃ R0, R0 = X.bk w yl sv k [] kp ++ rest := ⟨_, rfl⟩
  replace N : News g L h₁ ((wl, listOf wv.toArray kw) :: (X.hd w line tl ++ R0)) := by subst hR0; exact N
  simp only [Lx.hd, List.cons_append, List.nil_append] at N
  have hS : X.Sep rest := Lx.sep_of (line := line) (fun p hp q hq => hsep p hp q (.tail _ hq))
  have hwl : ∀ p ∈ rest, p.1 ≠ wl := fun p hp => hsep p hp _ (.head _)
  k_steps
  unfold Stop
  rename Fr _ _ _ _ => F9
  rename News _ _ _ ((_, _) :: _) => N9
  rename_i na _ l1 _ _
  refine pack fun G9 hG9 => ?_
  obtain ⟨hwna, _, _, l2⟩ := l1
  obtain ⟨hpna, hrna⟩ := lt_led (hR0 ▸ l2)
  refine hG9 ?_
  clear hG9
  refine list_loop (vs := wv) (k := kw) (fun i m nl => ∃ d : RD, RF X na (ws.take i) d m ∧ nl = (na, listOf d.nv.toArray d.kn) :: (wl, listOf wv.toArray kw) :: (X.led w line tl yl sv k d.pv d.kp' ++ rest)) rfl F9 (news_sub N9 (by subst hR0; exact fun _ h => h)) ?h0 ?hl ?turn ?done
  case h0 =>
    have hm : ∀ t : Tok, some (Value.str (PySem.Str.ofString "") t) = some (Value.str (strOf (rowOf (ws.take 0)).2) t) := fun t => by rw [e0]; rfl
    exact ⟨⟨[], [], 0, kp, _⟩, ⟨rfl, Eq.trans rfl (hm _), rfl, .nil, .nil⟩, rfl⟩
  case hl => rintro i m nl ⟨d, _, rfl⟩; exact .tail _ (.head _)
  case turn =>
    intro i v D o h tk m nl hi hPk1 hD1 hD2 F N
    refine pack fun G9 hG9 => ?_
    obtain ⟨⟨nv, pv, kn, kp', t⟩, ⟨j1, j2, j3, j4, j5⟩, rfl⟩ := hPk1
    refine hG9 ?_
    clear hG9
    dsimp only at *
    clear F9 N9
    rw [nm1 j3, under (nm1 j2), under (under (nm1 j1))] at F
    obtain ⟨R8, hR8⟩ : ∃ R8, R8 = X.bk w yl sv k pv kp' ++ rest := ⟨_, rfl⟩
    replace N := news_sub (l' := (D, o) :: (na, listOf nv.toArray kn) :: (wl, listOf wv.toArray kw) :: (X.hd w line tl ++ R8)) N (by subst hR8; exact fun _ h => h)
    simp only [Lx.hd, List.cons_append, List.nil_append] at N
    have hxna : @LT.lt Nat _ X.x na := Nat.lt_of_le_of_lt (hX.led_le (w := w) (line := line) (tl := tl) (yl := yl) (sv := sv) (ps := []) (k := k) (kp := kp) (X.x, instObj 86 X.dx) (.head _)) hpna
    have hdxna : @LT.lt Nat _ X.dx na := Nat.lt_trans hX.ord.2.2.2.2.2.2.1 hxna
    have hR8na : ∀ p ∈ R8, p.1 ≠ na := by
      subst hR8
      intro p hp
      rcases List.mem_append.mp hp with hp | hp
      · exact hX.nine (w := w) (line := line) (tl := tl) (yl := yl) (sv := sv) (ps := pv) (k := k) (kp := kp') (.inr hpna) p (.tail _ (.tail _ hp))
      · exact Nat.ne_of_lt (hrna p hp)
    obtain ⟨xw, hxw⟩ : ∃ xw, ws[i]? = some xw := ⟨ws[i]'(by have := hw.length; have := (List.getElem?_eq_some_iff.mp hi).1; omega), by simp⟩
    obtain ⟨t9, h9⟩ := hw.get i xw hxw
    obtain rfl := Option.some.inj (h9.symm.trans hi)
    have htake : ws.take (i + 1) = ws.take i ++ [xw] := by rw [List.take_add_one, hxw]; rfl
    have hnl := (rowOf_len _ (ws.take i) rfl).1
    have htl : (ws.take i).length ≤ ws.length := by rw [List.length_take]; omega
    have hnv : nv.length < 1000 := by have := j4.length; omega
    have hpv : pv.length < 1000 := by have := j5.length; omega
    have hDna : @LT.lt Nat _ na D := hD1 _ (.head _)
    have hDpb : @LT.lt Nat _ X.pb D := Nat.lt_trans hpna hDna
    have hDwl : @LT.lt Nat _ wl D := Nat.lt_trans hwna hDna
    k_steps
    · rename News _ _ _ _ => N
      rename List.any _ _ = true => hin'
      have hmem : xw ∈ (rowOf (ws.take i)).1 := by
        refine pack fun G9 hG9 => ?_
        obtain ⟨y, hy, he⟩ := List.any_eq_true.mp hin'
        refine hG9 ?_
        clear hG9
        exact beq_iff_eq.mp he ▸ hy
      have hst : rowOf (ws.take (i + 1)) = ((rowOf (ws.take i)).1, (rowOf (ws.take i)).2 ++ [97 + (rowOf (ws.take i)).1.idxOf xw]) := by
        rw [htake, rowOf_snoc]; unfold rowStep; rw [if_pos hin']
      have hix : (rowOf (ws.take i)).1.idxOf xw < 1000 := by
        have := List.idxOf_lt_length_iff.mpr hmem
        omega
      have hrl := (rowOf_len _ (ws.take i) rfl).2
      refine index_strs (News.isList N (.tail _ (.head _))) j4 (by omega) hmem ?_
      generalize (rowOf (ws.take i)).1.idxOf xw = ix at *
      k_steps
      rw [show (97 + (ix : Int)).toNat = 97 + ix by omega]
      refine iadd_str ?_ (by rw [strOf_len, show (PySem.Str.mk #[97 + ix]).length = 1 from rfl, sizeLine_eq, hrl]; omega)
      intro _ _
      rw [show (PySem.Str.mk #[97 + ix]) = one (97 + ix) from rfl, strOf_one]
      k_steps
      dsimp only
      exact ListStep.next ((na, listOf nv.toArray kn) :: (wl, listOf wv.toArray kw) :: (X.led w line tl yl sv k pv kp' ++ rest)) (by assumption) (news_sub (by assumption) (by subst hR8; exact fun _ h => h)) ⟨⟨nv, pv, kn, kp', _⟩, ⟨rfl, by rw [hst]; rfl, rfl, by rw [hst]; exact j4, by rw [hst]; exact j5⟩, rfl⟩ hD2
    · unfold Stop
      rename List.any _ _ = false => hin'
      rename Fr _ _ _ _ => F
      rename News _ _ _ _ => N
      rw [List.push_toArray] at N
      have hst : rowOf (ws.take (i + 1)) = ((rowOf (ws.take i)).1 ++ [xw], (rowOf (ws.take i)).2 ++ [97 + ((rowOf (ws.take i)).1 ++ [xw]).idxOf xw]) := by
        rw [htake, rowOf_snoc]; unfold rowStep; rw [if_neg (by rw [hin']; exact Bool.false_ne_true)]
      have hix : ((rowOf (ws.take i)).1 ++ [xw]).idxOf xw < 1000 := by
        have := List.idxOf_lt_length_iff.mpr (show xw ∈ (rowOf (ws.take i)).1 ++ [xw] by simp)
        rw [List.length_append, List.length_singleton] at this
        omega
      have hrl := (rowOf_len _ (ws.take i) rfl).2
      refine spec_use (push_token (w := w) X hX (sv := sv) (ps := pv) (k := k) (kp := kp') (line := line) (tl := tl) (yl := yl) (v := .str xw t9) hpv) ((D, o) :: (na, listOf (nv ++ [Value.str xw t9]).toArray (kn + 1)) :: (wl, listOf wv.toArray kw) :: rest) B F K N T rfl (by omega) (by omega) (by subst hR8; exact perm_r1) ((((hS.cons (hX.above hord)).cons (hX.above hpna)).cons (hX.above hDpb)).led) ?_
      intro r E' h' tk' hPk2 F' N' hn'
      refine pack fun G9 hG9 => ?_
      obtain ⟨kp2, rfl, rfl⟩ := hPk2
      refine hG9 ?_
      clear hG9
      k_steps
      replace F' := F'
      obtain ⟨R7, hR7⟩ : ∃ R7, R7 = X.led w line tl yl sv k (pv ++ [Value.str xw t9]) kp2 ++ rest := ⟨_, rfl⟩
      rename Fr _ _ _ _ => F6
      rename News _ _ _ _ => N6
      replace N6 := news_sub (l' := (D, o) :: (na, listOf (nv ++ [Value.str xw t9]).toArray (kn + 1)) :: (wl, listOf wv.toArray kw) :: R7) N6 (by subst hR7; exact perm_r2)
      refine index_strs (ns := (rowOf (ws.take i)).1 ++ [xw]) (News.isList (d := none) (sl := #[]) (a := na) (items := (nv ++ [Value.str xw t9]).toArray) (n := kn + 1) (by assumption) (by simp)) (strsAre_snoc j4) (by simp only [List.length_append, List.length_singleton]; omega) (by simp) ?_
      generalize ((rowOf (ws.take i)).1 ++ [xw]).idxOf xw = ix at *
      k_steps
      rw [show (97 + (ix : Int)).toNat = 97 + ix by omega]
      refine iadd_str ?_ (by rw [strOf_len, show (PySem.Str.mk #[97 + ix]).length = 1 from rfl, sizeLine_eq, hrl]; omega)
      intro _ _
      rw [show (PySem.Str.mk #[97 + ix]) = one (97 + ix) from rfl, strOf_one]
      k_steps
      dsimp only
      refine ListStep.next ((na, listOf (nv ++ [Value.str xw t9]).toArray (kn + 1)) :: (wl, listOf wv.toArray kw) :: (X.led w line tl yl sv k (pv ++ [Value.str xw t9]) kp2 ++ rest)) (by assumption) (news_sub (by assumption) (by subst hR7; exact fun _ h => h)) ⟨⟨_, _, kn + 1, kp2, _⟩, ⟨rfl, by rw [hst]; rfl, rfl, by rw [hst]; exact strsAre_snoc j4, by rw [hst]; exact strsAre_snoc j5⟩, rfl⟩ ?_
      intro p hp
      rcases List.mem_cons.mp hp with rfl | hp
      · exact Nat.ne_of_lt hDna
      rcases List.mem_cons.mp hp with rfl | hp
      · exact Nat.ne_of_lt hDwl
      rcases List.mem_append.mp hp with hp | hp
      · exact hX.nine (.inr hDpb) p hp
      · exact Nat.ne_of_lt (Nat.lt_trans (hrna p hp) hDna)
  case done =>
    intro h tk m nl hPk3 F N
    refine pack fun G9 hG9 => ?_
    obtain ⟨⟨nv, pv, kn, kp', t⟩, ⟨j1, j2, j3, j4, j5⟩, rfl⟩ := hPk3
    refine hG9 ?_
    clear hG9
    dsimp only at *
    clear F9 N9
    rw [nm1 j3, under (nm1 j2), under (under (nm1 j1))] at F
    have hf : ws.take wv.length = ws := by rw [hw.length, List.take_length]
    rw [hf] at F j4 j5
    k_steps
    dsimp only
    exact Back.intro ((wl, listOf wv.toArray kw) :: X.led w line tl yl sv k pv kp') (by assumption) (news_sub (by assumption) (fun _ h => .tail _ h)) ⟨_, pv, kp', rfl, j5, rfl⟩ (NewOk.same rfl)
theorem all (d : D) : H d := by
  refine eps_all ne H ?_ d
  have h := core
  unfold mark w X wl wv sv ws kw k kp line tl yl mean mg mb dp un gd outer A₀ base g L h₁ rest s tk NRow.d at h
  exact h
end NRow
set_option maxRecDepth 100000 in
set_option maxHeartbeats 4000000 in
theorem law_row {w : World} (X : Lx) (hX : X.Ok) {wl : Addr} {wv sv : List Value} {ws : List PySem.Str} {kw k kp : Nat} {line : Int} {tl : Tok} {yl : Value} (hw : StrsAre wv ws) (hlen : ws.length < 100) (hord : @LT.lt Nat _ X.pb wl) : mark PySem.Challenge.rw_us0019_01 K01
   (Spec w 185 [.ref wl, .ref X.x] [] 50 500 ((wl, listOf wv.toArray kw) :: X.led w line tl yl sv k [] kp)
     fun r E' => ∃ t nv kp', r = .str (strOf (rowOf ws).2) t ∧ StrsAre nv (rowOf ws).1 ∧ E' = (wl, listOf wv.toArray kw) :: X.led w line tl yl sv k nv kp') := by
  ((k_fill; unfold mark; (k_dflt (refine' spec_plain ?ho ?hcd ?hd1 ?hb ?hl ?hco ?hg ?hk ?hce ?_; (case ho => k_is); (case hcd => k_is); (case hd1 => decide); (case hb => intro _ KX; first | exact BindsTo.of_eq rfl | exact binds_K KX rfl (by k_is) rfl rfl rfl); (case hl => exact locs rfl); (case hco => exact rfl); (case hg => exact rfl); (case hk => exact rfl); (case hce => decide)); (try dsimp only [pa18, bd18, sc18]))))
  intro mean mg mb dp un gd outer A₀ base g L h₁ rest s tk
  exact NRow.all ⟨w, X, wl, wv, sv, ws, kw, k, kp, line, tl, yl, mean, mg, mb, dp, un, gd, outer, A₀, base, g, L, h₁, rest, s, tk⟩ hX hw hlen hord
end
section
noncomputable def LiAt (o : Obj) (l : Addr) (i : Nat) : Prop := o.cls = .type "list_iterator" ∧ o.data = .fields #[.ref l, .int i 0]
section
variable {prog : Program} {w : World} {A : Around} {E : Value → Shared → Prop} {s : Shared} {g : Heap} {L I l : Addr} {m : PySem.Str → Option Value} {news R : List (Addr × Obj)} {oI : Obj} {vs : List Value} {i k : Nat}
theorem LiAt.at {h : Heap} (a : LiAt oI l i) (e : h.get? I = some oI) : h.IsListIter I l i := ⟨oI, e, a.1, a.2⟩
theorem iter_led {Q : Value → Shared → Prop} (F : Fr g L s.heap m) (N : News g L s.heap news) (hm : (l, listOf vs.toArray k) ∈ news)
    (h : ∀ I h' oI, Fr g L h' m → News g L h' ((I, oI) :: news) → (∀ p ∈ news, @LT.lt Nat _ p.1 I) → LiAt oI l 0 → Q (.ref I) { s with heap := h' }) : wpAny (model prog w) A (call (.builtin "iter") [.ref l]) Q E s := by
  refine call_function_entry (by decide +kernel) (by decide +kernel) kdk_entry_iter (kdk_args_iter _) ?_
  unfold Builtin.«iter»
  refine wpAny_bind (m := someArgs "iter" 1 2 _) (wpAny_of_eq (a := [Value.ref l]) (by first | rfl | kernel_rfl!) ?_)
  show wpAny _ _ (pyIter (.ref l) >>= _) _ _ _
  refine wpAny_bind (wpAny_pyIter_list (News.isList N hm) ?_)
  exact wpAny_pure ⟨_, rfl, h _ _ _ (F.push _) (News.push F N _ rfl) (fun q hq => Heap.lt_size (N q hq).1) ⟨rfl, rfl⟩⟩
theorem next_special {Q : Option Value → Shared → Prop} {items : Array Value} {x : Value} (hit : s.heap.IsListIter I l i) (hl : s.heap.IsList l items) (hx : items[i]? = some x)
    (hQ : ∀ h', h'.IsListIter I l (i + 1) → Heap.SameBut I s.heap h' → Q (some x) { s with heap := h' }) : wpAny (model prog w) A (callSpecial? (.ref I) (PySem.Str.ofString "__next__")) Q E s := by
  refine pack fun G9 hG9 => ?_
  obtain ⟨o, ho, hc, hd⟩ := id hit
  obtain ⟨ol, hol, _, nl, hdl⟩ := hl
  refine hG9 ?_
  clear hG9
  refine wpAny_callSpecial?_slot (name := PySem.Str.ofString "__next__") hit.typeIs slot_listiter_next
    (wpAny_call_entry slot_listiter_next hit.typeIs entry_listiter_next ?_ (args_listiter_next _))
  show wpAny _ _ (field (.ref I) 0 >>= _) _ _ s
  refine wpAny_bind (wpAny_field ho hd (x := .ref l) rfl ?_)
  show wpAny _ _ (if (Value.ref l == Value.none) = true then _ else _) _ _ s
  rw [if_neg (show ¬ ((Value.ref l == Value.none) = true) from Bool.false_ne_true)]
  show wpAny _ _ (field (.ref I) 1 >>= _) _ _ s
  refine wpAny_bind (wpAny_field ho hd (x := .int i 0) rfl ?_)
  show wpAny _ _ (seqItems? (.ref l) >>= _) _ _ s
  refine wpAny_bind (wpAny_seqItems hol hdl ?_)
  simp only [Int.toNat_natCast, hx]
  refine wpAny_bind (wpAny_setField ho hd (by simp) (wpAny_pure ⟨x, rfl, hQ _ ?_ (Heap.SameBut.update ..)⟩))
  exact ⟨_, Heap.get?_update_self _ ho (Obj.isFreed_of_fields (Obj.data_mapFields hd _)), (Obj.cls_mapFields ..).trans hc, by
    rw [Obj.data_mapFields hd]; simp [rawInt]⟩
theorem next_item {Q : Value → Shared → Prop} {x : Value} (F : Fr g L s.heap m) (N : News g L s.heap ((I, oI) :: R)) (hR : ∀ p ∈ R, p.1 ≠ I) (hi : LiAt oI l i) (hm : (l, listOf vs.toArray k) ∈ R) (hx : vs[i]? = some x)
    (h : ∀ h' oI', Fr g L h' m → News g L h' ((I, oI') :: R) → LiAt oI' l (i + 1) → Q x { s with heap := h' }) : wpAny (model prog w) A (call (.builtin "next") [.ref I]) Q E s := by
  have z := N _ (.head _)
  have hit := hi.at z.1
  refine call_function_entry (by decide +kernel) (by decide +kernel) kdk_entry_next (kdk_args_next _) ?_
  unfold Builtin.«next»
  refine wpAny_bind (m := someArgs "next" 1 2 _) (wpAny_of_eq (a := [Value.ref I]) (by first | rfl | kernel_rfl!) ?_)
  dsimp only
  refine wpAny_bind (wpAny_specialOf (name := PySem.Str.ofString "__next__") hit.typeIs slot_listiter_next.lookup ?_)
  refine wpAny_ite_split (fun hab => absurd hab (by decide)) (fun _ => ?_)
  refine wpAny_bind (next_special hit (News.isList N (.tail _ hm)) (x := x) (by simpa using hx) fun h' hit' hs => ?_)
  refine pack fun G9 hG9 => ?_
  obtain ⟨o', ho', hc', hd'⟩ := hit'
  refine hG9 ?_
  clear hG9
  exact wpAny_pure ⟨_, rfl, h h' o' (F.change hs z.2.1 z.2.2) (N.setHead hR hs ho') ⟨hc', hd'⟩⟩
theorem next_stop {Q : Value → Shared → Prop} (hh : A.handled = none) (F : Fr g L s.heap m) (N : News g L s.heap ((I, oI) :: R)) (hR : ∀ p ∈ R, p.1 ≠ I) (hi : LiAt oI l i) (hm : (l, listOf vs.toArray k) ∈ R) (hx : vs[i]? = none)
    (h : ∀ h₁ h' oI' e, Fr g L h₁ m → News g L h₁ ((I, oI') :: R) → Heap.NewExc h₁ h' e "StopIteration" → E (.ref e) { s with heap := h' }) : wpAny (model prog w) A (call (.builtin "next") [.ref I]) Q E s := by
  have z := N _ (.head _)
  have hit := hi.at z.1
  have hl := News.isList N (.tail _ hm)
  refine pack fun G9 hG9 => ?_
  obtain ⟨o, ho, hc, hd⟩ := id hit
  obtain ⟨ol, hol, _, nl, hdl⟩ := hl
  refine hG9 ?_
  clear hG9
  refine call_function_entry (by decide +kernel) (by decide +kernel) kdk_entry_next (kdk_args_next _) ?_
  unfold Builtin.«next»
  refine wpAny_bind (m := someArgs "next" 1 2 _) (wpAny_of_eq (a := [Value.ref I]) (by first | rfl | kernel_rfl!) ?_)
  dsimp only
  refine wpAny_bind (wpAny_specialOf (name := PySem.Str.ofString "__next__") hit.typeIs slot_listiter_next.lookup ?_)
  refine wpAny_ite_split (fun hab => absurd hab (by decide)) (fun _ => ?_)
  refine wpAny_bind (wpAny_callSpecial?_slot (name := PySem.Str.ofString "__next__") hit.typeIs slot_listiter_next
    (wpAny_call_entry slot_listiter_next hit.typeIs entry_listiter_next ?_ (args_listiter_next _)))
  show wpAny _ _ (field (.ref I) 0 >>= _) _ _ s
  refine wpAny_bind (wpAny_field ho hd (x := .ref l) rfl ?_)
  show wpAny _ _ (if (Value.ref l == Value.none) = true then _ else _) _ _ s
  rw [if_neg (show ¬ ((Value.ref l == Value.none) = true) from Bool.false_ne_true)]
  show wpAny _ _ (field (.ref I) 1 >>= _) _ _ s
  refine wpAny_bind (wpAny_field ho hd (x := .int i 0) rfl ?_)
  show wpAny _ _ (seqItems? (.ref l) >>= _) _ _ s
  refine wpAny_bind (wpAny_seqItems hol hdl ?_)
  simp only [Int.toNat_natCast, show vs.toArray[i]? = none by simpa using hx]
  refine wpAny_bind (wpAny_rule (wpAny_bind (wpAny_setField ho hd (by simp) ?_)))
  show wpAny _ _ (newExc (.type "StopIteration") [] >>= _) _ _ _
  refine wpAny_bind ?_
  simp only [newExc, newTuple]
  refine wpAny_bind (wpAny_newObj_type ?_ (by size_fits))
  refine wpAny_bind (m := firstArgMember _ _) (wpAny_of_eq (a := Value.none) (by first | rfl | (simp only [firstArgMember]; rfl)) ?_)
  refine wpAny_newObj_type ?_ (by size_fits)
  unfold raiseNew
  refine wpAny_bind (wpAny_handled ?_)
  rw [show A.in1.in1.handled = none from hh]
  refine wpAny_throw ?_
  have hs := Heap.SameBut.update s.heap I (Obj.mapFields fun x => x.setIfInBounds 0 Value.none)
  have hI := Heap.get?_update_self (Obj.mapFields fun x => x.setIfInBounds 0 Value.none) ho (Obj.isFreed_of_fields (Obj.data_mapFields hd _))
  refine h _ _ _ _ (F.change hs z.2.1 z.2.2) (N.setHead hR hs hI) ⟨fun b o e => Heap.get?_push_of_some _ (Heap.get?_push_of_some _ e), ?_, ?_⟩
  · exact Heap.get?_none_of_le (by rw [Heap.size_push]; exact Nat.le_succ _)
  · exact ⟨_, _, Heap.get?_push_size _ rfl, rfl, by rfl⟩
noncomputable def SpecStop (w : World) (f : Addr) (args : List Value) (kw : List (PySem.Str × Value)) (d u : Nat) (E₀ E₁ : List (Addr × Obj)) : Prop :=
  ∀ (mean : ExcName → Option Value) (mg mb : PySem.Str → Option Value) (dp un : Nat) (gd : Option (List Code)) (cn : PySem.Str) (cs : Scope) (a : Addr) (ccd : Value) (cl : List (PySem.Str × Addr)) (outer : List Env) (A₀ : Around) (base h₀ : Heap) (L : Addr)
    (m : PySem.Str → Option Value) (rest : List (Addr × Obj)) (s : Shared) (Q E : Value → Shared → Prop),
    Below A₀ base outer h₀ → Fr h₀ L s.heap m → (K01 w.params).In h₀ → News h₀ L s.heap (E₀ ++ rest) → Top topProg looseQ mean mg mb h₀ → cs.kind = .function → dp + d < recursionLimit → un + u < cLine →
    (∀ p ∈ rest, ∀ q ∈ E₀, p.1 ≠ q.1) →
    (∀ e G h' tk', Fr h₀ L G m → RaisedSN base G (envX cn cs L a ccd cl :: outer) e (.type "StopIteration") (E₁ ++ rest) h' → G.UpToSlots h' → E (.ref e) { s with heap := h', toks := tk' }) →
    codeAny (model P1 w) (ktrTop dp un gd cn cs L a ccd cl outer) (.call (.ref f) ⟨args, kw⟩) (fun r s' => match r with | .ok (.ret v) => Q v s' | .ok _ => False | .error e => E e s') s
end
section
variable {w : World} {f : Addr} {args : List Value} {kw : List (PySem.Str × Value)} {d u : Nat} {E₀ E₁ : List (Addr × Obj)}
  {name qual : PySem.Str} {params : Arguments} {body : List Stmt} {scope : Scope} {dV kV doc pm cdv ct oc : Value} {an od : Option Addr} {osl : Array (Option Value)} {binds : List (PySem.Str × Value)}
noncomputable def Stops (g : Heap) (L : Addr) (s : Shared) (news : List (Addr × Obj)) (e : Value) (s' : Shared) : Prop :=
  ∃ a h₁ h' tk' m', e = .ref a ∧ s' = { s with heap := h', toks := tk' } ∧ Fr g L h₁ m' ∧ News g L h₁ news ∧ Heap.NewExc h₁ h' a "StopIteration"
theorem Stops.intro {g : Heap} {L : Addr} {s : Shared} {news : List (Addr × Obj)} {a : Addr} {h₁ h' : Heap} {tk' : Nat} {m' : PySem.Str → Option Value} (F : Fr g L h₁ m') (N : News g L h₁ news) (X : Heap.NewExc h₁ h' a "StopIteration") : Stops g L s news (.ref a) { s with heap := h', toks := tk' } := ⟨a, h₁, h', tk', m', rfl, rfl, F, N, X⟩
theorem spec_stop (ho : (K01 w.params).lookup f = some ⟨oc, od, .func (fnOf name qual params body scope dV kV doc pm an cdv ct), osl⟩) (hcd : codeIn (K01 w.params) cdv qual = true) (hd1 : 1 ≤ d)
    (hbind : ∀ s : Shared, (K01 w.params).In s.heap → BindsTo s (fnOf name qual params body scope dV kV doc pm an cdv ct) ⟨args, kw⟩ binds) (hloc : ∀ y ∈ binds, scope.names.lookup y.1 = some .local)
    (hco : scope.isCoroutine = false) (hgen : scope.isGenerator = false) (hk : scope.kind = .function) (hcell : ∀ x ∈ scope.names, x.2 ≠ .cell)
    (h : ∀ (mean : ExcName → Option Value) (mg mb : PySem.Str → Option Value) (dp un : Nat) (gd : Option (List Code)) (outer : List Env) (A₀ : Around) (base g : Heap) (L : Addr) (h₁ : Heap) (rest : List (Addr × Obj)) (s : Shared) (tk : Nat),
      Below A₀ base outer g → (K01 w.params).In g → Top topProg looseQ mean mg mb g → Fr g L h₁ (fun y => binds.reverse.lookup y) → News g L h₁ (E₀ ++ rest) → RestLt rest L → RestLt E₀ L → (∀ p ∈ rest, ∀ q ∈ E₀, p.1 ≠ q.1) →
      dp + d < recursionLimit → un + u < cLine →
      wpAny (model P1 w) (ktrTop (dp + 1) (un + 3) gd qual scope L f cdv [] outer) (execs body (envX qual scope L f cdv [])) (fun _ _ => False) (Stops g L s (E₁ ++ rest)) { s with heap := h₁, toks := tk }) :
    SpecStop w f args kw d u E₀ E₁ := by
  intro mean mg mb dp un gd cn cs a ccd cl outer A₀ base h₀ L m rest s Q E B F X N T hks hd hu hsep hret
  refine (callX_plain (cl := []) (env := envX cn cs L a ccd cl) (outer := outer) (base := base) B F N T.nolimit rfl rfl hks (F.keep _ _ (X _ _ ho)) rfl (codeRec_of (X.keeps F.keep) hcd) (by show dp < recursionLimit; omega) (hbind _ (X.keeps F.keep)) hloc (fun g L' h₁ FG F' N' B' st hlt => ?_) hcell hco hgen hk)
  refine wpAny_mono (h mean mg mb dp un gd (envX cn cs L a ccd cl :: outer) _ base g L' h₁ rest s _ B' (X.keeps st) (T.keeps st) F' N' (fun p hp => hlt p (List.mem_append_right _ hp)) (fun p hp => hlt p (List.mem_append_left _ hp)) hsep hd hu) (fun _ _ e => e.elim) fun e s' hb => ?_
  refine pack fun G9 hG9 => ?_
  obtain ⟨e1, h2, h', tk', m', rfl, rfl, F9, N9, hx⟩ := hb
  refine hG9 ?_
  clear hG9
  exact leave_newS (name := qual) (scope := scope) (a := f) (cd := cdv) B' hx F9 N9 (fun h'' R _ U => hret e1 g h'' tk' FG R U) hk
end
end
section
local macro_rules | `(tactic| walk_at "execs cons") => `(tactic| k_fold)
noncomputable def octLoop (n : Nat) (acc : List Int) : List Int :=
  if h : n < 64 then acc else octLoop (n / 64) ((((n / 64 % 64 : Nat) : Int) + 64) :: acc)
termination_by n
decreasing_by omega
theorem octLoop_stop {n : Nat} {acc : List Int} (h : n < 64) : octLoop n acc = acc := by rw [octLoop]; simp [h]
theorem octLoop_step {n : Nat} {acc : List Int} (h : ¬ n < 64) : octLoop n acc = octLoop (n / 64) ((((n / 64 % 64 : Nat) : Int) + 64) :: acc) := by rw [octLoop]; simp [h]
noncomputable def octOf (n : Nat) : List Int := octLoop n [((n % 64 : Nat) : Int)]
local macro_rules | `(tactic| walk_at "exec While Compare cons nil") => `(tactic| (refine stopHere ?_))
namespace NOc
noncomputable def G (w : World) (n : Nat) (t : Tok) (mean : ExcName → Option Value) (mg : PySem.Str → Option Value) (mb : PySem.Str → Option Value) (dp : Nat) (un : Nat) (gd : Option (List Code)) (outer : List Env) (A₀ : Around) (base : Heap) (g : Heap) (L : Addr) (h₁ : Heap) (rest : List (Addr × Obj)) (s : Shared) (tk : Nat) : Prop :=
  (n < 8000000) → PlainH w 199 (PySem.Str.ofString "_law_octets") bd20 sc20 (.ref 198) [(PySem.Str.ofString "number", .int n t)] 10 100 ([]) (fun r E' => ∃ l vs k, r = .ref l ∧ E' = [(l, listOf vs.toArray k)] ∧ IntsAre vs (octOf n)) mean mg mb dp un gd outer A₀ base g L h₁ rest s tk
noncomputable abbrev D : Type := (World) × (Nat) × (Tok) × (ExcName → Option Value) × (PySem.Str → Option Value) × (PySem.Str → Option Value) × (Nat) × (Nat) × (Option (List Code)) × (List Env) × (Around) × (Heap) × (Heap) × (Addr) × (Heap) × (List (Addr × Obj)) × (Shared) × (Nat)
theorem ne : Nonempty D := ⟨⟨w0, 0, 0, fun _ => none, fun _ => none, fun _ => none, 0, 0, none, [], {}, default, default, 0, default, [], {}, 0⟩⟩
noncomputable abbrev H (d : D) : Prop := G d.1 d.2.1 d.2.2.1 d.2.2.2.1 d.2.2.2.2.1 d.2.2.2.2.2.1 d.2.2.2.2.2.2.1 d.2.2.2.2.2.2.2.1 d.2.2.2.2.2.2.2.2.1 d.2.2.2.2.2.2.2.2.2.1 d.2.2.2.2.2.2.2.2.2.2.1 d.2.2.2.2.2.2.2.2.2.2.2.1 d.2.2.2.2.2.2.2.2.2.2.2.2.1 d.2.2.2.2.2.2.2.2.2.2.2.2.2.1 d.2.2.2.2.2.2.2.2.2.2.2.2.2.2.1 d.2.2.2.2.2.2.2.2.2.2.2.2.2.2.2.1 d.2.2.2.2.2.2.2.2.2.2.2.2.2.2.2.2.1 d.2.2.2.2.2.2.2.2.2.2.2.2.2.2.2.2.2
@[irreducible] noncomputable def d : D := @Classical.epsilon D ne fun d => ¬ H d
@[irreducible] noncomputable def w : World := d.1
@[irreducible] noncomputable def n : Nat := d.2.1
@[irreducible] noncomputable def t : Tok := d.2.2.1
@[irreducible] noncomputable def mean : ExcName → Option Value := d.2.2.2.1
@[irreducible] noncomputable def mg : PySem.Str → Option Value := d.2.2.2.2.1
@[irreducible] noncomputable def mb : PySem.Str → Option Value := d.2.2.2.2.2.1
@[irreducible] noncomputable def dp : Nat := d.2.2.2.2.2.2.1
@[irreducible] noncomputable def un : Nat := d.2.2.2.2.2.2.2.1
@[irreducible] noncomputable def gd : Option (List Code) := d.2.2.2.2.2.2.2.2.1
@[irreducible] noncomputable def outer : List Env := d.2.2.2.2.2.2.2.2.2.1
@[irreducible] noncomputable def A₀ : Around := d.2.2.2.2.2.2.2.2.2.2.1
@[irreducible] noncomputable def base : Heap := d.2.2.2.2.2.2.2.2.2.2.2.1
@[irreducible] noncomputable def g : Heap := d.2.2.2.2.2.2.2.2.2.2.2.2.1
@[irreducible] noncomputable def L : Addr := d.2.2.2.2.2.2.2.2.2.2.2.2.2.1
@[irreducible] noncomputable def h₁ : Heap := d.2.2.2.2.2.2.2.2.2.2.2.2.2.2.1
@[irreducible] noncomputable def rest : List (Addr × Obj) := d.2.2.2.2.2.2.2.2.2.2.2.2.2.2.2.1
@[irreducible] noncomputable def s : Shared := d.2.2.2.2.2.2.2.2.2.2.2.2.2.2.2.2.1
@[irreducible] noncomputable def tk : Nat := d.2.2.2.2.2.2.2.2.2.2.2.2.2.2.2.2.2
set_option maxRecDepth 100000 in
set_option maxHeartbeats 4000000 in
theorem core : mark PySem.Challenge.rw_us0019_01 K01 (G w n t mean mg mb dp un gd outer A₀ base g L h₁ rest s tk) := by
  k_fill
  unfold mark G PlainH
  (try dsimp only [pa20, bd20, sc20])
  intro hn8
  intro B K T F N hR hE hsep hd hu
  simp only [List.nil_append] at N
  k_steps
  unfold Stop
  rename Fr _ _ _ _ => Fi
  rename News _ _ _ ((_, _) :: _) => Ni
  refine While_inv (fun k m₁ news₁ => ∃ (n' : Nat) (z : Int) (t' : Tok) (l : Addr) (vs : List Value) (c : Nat) (acc : List Int) (m₀ : PySem.Str → Option Value), k = n' ∧ z = (n' : Int) ∧ (m₁ = fun y => if y = PySem.Str.ofString "octets" then some (.ref l) else if y = PySem.Str.ofString "number" then some (.int z t') else m₀ y) ∧ news₁ = (l, listOf vs.toArray c) :: rest ∧ IntsAre vs acc ∧ acc.length + n' ≤ n + 1 ∧ octLoop n' acc = octOf n ∧ RestLt rest l) (n₀ := n) Fi Ni ?start ?turn
  case start =>
    refine ⟨n, _, t, _, _, _, _, _, rfl, rfl, under (nm1 rfl), rfl, .cons _ _ .nil, ?_, ?_, by (first | exact restLt_of (by assumption) | exact restLt_all (by assumption) | exact restLt_all (by simp_all only [AllLt, and_true, true_and]))⟩
    · simp only [List.length_cons, List.length_nil]; omega
    · unfold octOf; rw [show (64 : Int) = ((64 : Nat) : Int) from rfl, fmodN]
  case turn =>
    rintro k m₁ news₁ h₁ tk₁ F₁ N₁ hI9
    try k_fold
    refine pack fun G9 hG9 => ?_
    obtain ⟨n', z, t', l, vs, c, acc, m₀, rfl, hz, rfl, rfl, hI, hLe, hO, hAl⟩ := hI9
    refine hG9 ?_
    clear hG9
    clear Fi Ni
    k_steps
    · rename Fr _ _ _ _ => F9
      rename News _ _ _ ((_, _) :: _) => N9
      rename IntsAre _ (_ ++ _) => I9
      rename (64 : Int) ≤ _ => h64
      subst hz
      have e1 : Int.fdiv (k : Int) 64 = ((k / 64 : Nat) : Int) := fdivN k 64
      have e2 : Int.fmod ((k / 64 : Nat) : Int) 64 = ((k / 64 % 64 : Nat) : Int) := fmodN _ 64
      rw [e1, e2] at I9
      refine WhileStep.intro (n' := k / 64) F9 (news_sub N9 (l' := _ :: rest) (by ((repeat (first | (with_reducible exact sub_refl) | (with_reducible refine sub_keep ?_) | (with_reducible refine sub_drop ?_)))))) (by omega) ⟨k / 64, _, _, _, _, _, _, _, rfl, e1, rfl, rfl, I9, ?_, ?_, ?_⟩
      · simp only [List.length_cons, List.length_append, List.length_nil]; omega
      · exact (octLoop_step (by omega)).symm.trans hO
      · (first | exact restLt_of (by assumption) | exact restLt_all (by assumption) | exact restLt_all (by simp_all only [AllLt, and_true, true_and]))
    · subst hz
      rename ¬ ((64 : Int) ≤ _) => h64
      rw [octLoop_stop (by omega)] at hO
      subst hO
      dsimp only
      exact Back.intro [_] (by assumption) (by assumption) ⟨l, vs, c, rfl, rfl, hI⟩ (NewOk.cons (by rw [List.nil_append]; exact hAl) NewOk.nil)
theorem all (d : D) : H d := by
  refine eps_all ne H ?_ d
  have h := core
  unfold mark w n t mean mg mb dp un gd outer A₀ base g L h₁ rest s tk NOc.d at h
  exact h
end NOc
set_option maxRecDepth 100000 in
set_option maxHeartbeats 4000000 in
theorem octets {w : World} (n : Nat) (t : Tok) (hn8 : n < 8000000) : mark PySem.Challenge.rw_us0019_01 K01
   (Spec w 199 [.int n t] [] 10 100 [] fun r E' => ∃ l vs k, r = .ref l ∧ E' = [(l, listOf vs.toArray k)] ∧ IntsAre vs (octOf n)) := by
  ((k_fill; unfold mark; (k_dflt (refine' spec_plain ?ho ?hcd ?hd1 ?hb ?hl ?hco ?hg ?hk ?hce ?_; (case ho => k_is); (case hcd => k_is); (case hd1 => decide); (case hb => intro _ KX; first | exact BindsTo.of_eq rfl | exact binds_K KX rfl (by k_is) rfl rfl rfl); (case hl => exact locs rfl); (case hco => exact rfl); (case hg => exact rfl); (case hk => exact rfl); (case hce => decide)); (try dsimp only [pa20, bd20, sc20]))))
  intro mean mg mb dp un gd outer A₀ base g L h₁ rest s tk
  exact NOc.all ⟨w, n, t, mean, mg, mb, dp, un, gd, outer, A₀, base, g, L, h₁, rest, s, tk⟩ hn8
end
section
local macro_rules | `(tactic| walk_at $s:str) => if ["call builtin:next", "exec While", "exec While BinOp"].contains s.getString then `(tactic| (refine stopHere ?_)) else Lean.Macro.throwUnsupported
set_option maxRecDepth 100000 in
set_option maxHeartbeats 4000000 in
theorem varint_stop {w : World} {I l : Addr} {oI : Obj} {vs : List Value} {i k : Nat} (hi : LiAt oI l i) (hx : vs[i]? = none) (hIl : l ≠ I) : mark PySem.Challenge.rw_us0019_01 K01
   (SpecStop w 48 [.ref I] [] 20 200 [(I, oI), (l, listOf vs.toArray k)] [(l, listOf vs.toArray k)]) := by
  ((k_fill; unfold mark; (k_dflt (refine' spec_stop ?ho ?hcd ?hd1 ?hb ?hl ?hco ?hg ?hk ?hce ?_; (case ho => k_is); (case hcd => k_is); (case hd1 => decide); (case hb => intro _ KX; first | exact BindsTo.of_eq rfl | exact binds_K KX rfl (by k_is) rfl rfl rfl); (case hl => exact locs rfl); (case hco => exact rfl); (case hg => exact rfl); (case hk => exact rfl); (case hce => decide)); (try dsimp only [pa5, bd5, sc5]))))
  intro mean mg mb dp un gd outer A₀ base g L h₁ rest s tk B K T F N hR hE hsep hd hu
  simp only [List.cons_append, List.nil_append] at N
  have hRI : ∀ p ∈ (l, listOf vs.toArray k) :: rest, p.1 ≠ I := fun p hp => by
    rcases List.mem_cons.mp hp with rfl | hp
    · exact hIl
    · exact hsep p hp _ (.head _)
  k_steps
  unfold Stop
  refine next_stop rfl F N hRI hi (.head _) hx ?_
  intro h1 h2 oI' e F' N' X
  exact Stops.intro F' (news_sub N' (fun p hp => .tail _ hp)) X
noncomputable def vloop : Nat → Nat → List Nat → Option (Nat × List Nat)
  | val, b, [] => if b < 64 then some (val, []) else none
  | val, b, c :: r => if b < 64 then some (val, c :: r) else vloop (val * 64 + c % 64) c r
noncomputable def vread : List Nat → Option (Nat × List Nat)
  | [] => none
  | b :: r => vloop (b % 64) b r
theorem vloop_stop {val b : Nat} {r : List Nat} (h : b < 64) : vloop val b r = some (val, r) := by cases r <;> simp [vloop, h]
theorem vloop_more {val b : Nat} {r : List Nat} {x : Nat × List Nat} (h : ¬ b < 64) (e : vloop val b r = some x) : ∃ c q, r = c :: q ∧ vloop (val * 64 + c % 64) c q = some x := by
  cases r with
  | nil => simp [vloop, h] at e
  | cons c q => exact ⟨c, q, rfl, by simpa [vloop, h] using e⟩
theorem and63 (b : Nat) : Builtin.bitAnd (b : Int) 63 = ((b % 64 : Nat) : Int) := by rw [bitAnd_m6]; rfl
theorem and64 {b : Nat} (h : b < 128) : Builtin.bitAnd (b : Int) 64 = if b < 64 then 0 else 64 := by
  rw [show (64 : Int) = 2 ^ 6 by decide, kbt_bit]
  rw [show (2 : Int) ^ 6 = 64 by decide]
  split <;> omega
theorem or_low {v c : Nat} (h : c < 64) : Builtin.bitOr ((v * 64 : Nat) : Int) (c : Int) = ((v * 64 + c : Nat) : Int) := by
  unfold Builtin.bitOr Builtin.bitAnd Builtin.bitNot
  rw [decide_eq_false (by omega), decide_eq_false (by omega)]
  have e1 : (-(-((v * 64 : Nat) : Int) - 1) - 1).toNat = v * 64 := by omega
  have e2 : (-(-(c : Int) - 1) - 1).toNat = c := by omega
  rw [e1, e2]
  have e3 : v * 64 ||| c = v * 64 + c := by
    have := Nat.two_pow_add_eq_or_of_lt (i := 6) (b := c) (by omega) v
    rw [show (2 : Nat) ^ 6 = 64 by decide, Nat.mul_comm] at this
    exact this.symm
  show -(-(((v * 64 ||| c : Nat) : Int)) - 1) - 1 = _
  rw [e3]; omega
theorem nat_at {vs : List Value} {os : List Nat} (hI : IntsAre vs (os.map Int.ofNat)) {i c : Nat} (h : os[i]? = some c) : ∃ t, vs[i]? = some (.int (c : Int) t) := by
  obtain ⟨t, ht⟩ := hI.get i (Int.ofNat c) (by rw [List.getElem?_map, h]; rfl)
  exact ⟨t, ht⟩
theorem drop_at {os r : List Nat} {j c : Nat} (h : os.drop j = c :: r) : os[j]? = some c ∧ os.drop (j + 1) = r := by
  constructor
  · have := congrArg (·[0]?) h
    simpa using this
  · have := congrArg (List.drop 1) h
    rw [List.drop_drop] at this
    simpa using this
namespace NVar
noncomputable def G (w : World) (I : Addr) (l : Addr) (oI : Obj) (vs : List Value) (i : Nat) (k : Nat) (n : Nat) (os : List Nat) (rst : List Nat) (mean : ExcName → Option Value) (mg : PySem.Str → Option Value) (mb : PySem.Str → Option Value) (dp : Nat) (un : Nat) (gd : Option (List Code)) (outer : List Env) (A₀ : Around) (base : Heap) (g : Heap) (L : Addr) (h₁ : Heap) (rest : List (Addr × Obj)) (s : Shared) (tk : Nat) : Prop :=
  (LiAt oI l i) → (l ≠ I) → (IntsAre vs (os.map Int.ofNat)) → (∀ c ∈ os, c < 128) → (os.length < 10000) → (vread (os.drop i) = some (n, rst)) → PlainH w 48 (PySem.Str.ofString "_parse_varint") bd5 sc5 (.ref 47) [(PySem.Str.ofString "iterator", .ref I)] 20 200 ([(I, oI), (l, listOf vs.toArray k)]) (fun r E' => ∃ oI' j t, LiAt oI' l j ∧ os.drop j = rst ∧ r = .int (n : Int) t ∧ E' = [(I, oI'), (l, listOf vs.toArray k)]) mean mg mb dp un gd outer A₀ base g L h₁ rest s tk
noncomputable abbrev D : Type := (World) × (Addr) × (Addr) × (Obj) × (List Value) × (Nat) × (Nat) × (Nat) × (List Nat) × (List Nat) × (ExcName → Option Value) × (PySem.Str → Option Value) × (PySem.Str → Option Value) × (Nat) × (Nat) × (Option (List Code)) × (List Env) × (Around) × (Heap) × (Heap) × (Addr) × (Heap) × (List (Addr × Obj)) × (Shared) × (Nat)
theorem ne : Nonempty D := ⟨⟨w0, 0, 0, default, [], 0, 0, 0, [], [], fun _ => none, fun _ => none, fun _ => none, 0, 0, none, [], {}, default, default, 0, default, [], {}, 0⟩⟩
noncomputable abbrev H (d : D) : Prop := G d.1 d.2.1 d.2.2.1 d.2.2.2.1 d.2.2.2.2.1 d.2.2.2.2.2.1 d.2.2.2.2.2.2.1 d.2.2.2.2.2.2.2.1 d.2.2.2.2.2.2.2.2.1 d.2.2.2.2.2.2.2.2.2.1 d.2.2.2.2.2.2.2.2.2.2.1 d.2.2.2.2.2.2.2.2.2.2.2.1 d.2.2.2.2.2.2.2.2.2.2.2.2.1 d.2.2.2.2.2.2.2.2.2.2.2.2.2.1 d.2.2.2.2.2.2.2.2.2.2.2.2.2.2.1 d.2.2.2.2.2.2.2.2.2.2.2.2.2.2.2.1 d.2.2.2.2.2.2.2.2.2.2.2.2.2.2.2.2.1 d.2.2.2.2.2.2.2.2.2.2.2.2.2.2.2.2.2.1 d.2.2.2.2.2.2.2.2.2.2.2.2.2.2.2.2.2.2.1 d.2.2.2.2.2.2.2.2.2.2.2.2.2.2.2.2.2.2.2.1 d.2.2.2.2.2.2.2.2.2.2.2.2.2.2.2.2.2.2.2.2.1 d.2.2.2.2.2.2.2.2.2.2.2.2.2.2.2.2.2.2.2.2.2.1 d.2.2.2.2.2.2.2.2.2.2.2.2.2.2.2.2.2.2.2.2.2.2.1 d.2.2.2.2.2.2.2.2.2.2.2.2.2.2.2.2.2.2.2.2.2.2.2.1 d.2.2.2.2.2.2.2.2.2.2.2.2.2.2.2.2.2.2.2.2.2.2.2.2
@[irreducible] noncomputable def d : D := @Classical.epsilon D ne fun d => ¬ H d
@[irreducible] noncomputable def w : World := d.1
@[irreducible] noncomputable def I : Addr := d.2.1
@[irreducible] noncomputable def l : Addr := d.2.2.1
@[irreducible] noncomputable def oI : Obj := d.2.2.2.1
@[irreducible] noncomputable def vs : List Value := d.2.2.2.2.1
@[irreducible] noncomputable def i : Nat := d.2.2.2.2.2.1
@[irreducible] noncomputable def k : Nat := d.2.2.2.2.2.2.1
@[irreducible] noncomputable def n : Nat := d.2.2.2.2.2.2.2.1
@[irreducible] noncomputable def os : List Nat := d.2.2.2.2.2.2.2.2.1
@[irreducible] noncomputable def rst : List Nat := d.2.2.2.2.2.2.2.2.2.1
@[irreducible] noncomputable def mean : ExcName → Option Value := d.2.2.2.2.2.2.2.2.2.2.1
@[irreducible] noncomputable def mg : PySem.Str → Option Value := d.2.2.2.2.2.2.2.2.2.2.2.1
@[irreducible] noncomputable def mb : PySem.Str → Option Value := d.2.2.2.2.2.2.2.2.2.2.2.2.1
@[irreducible] noncomputable def dp : Nat := d.2.2.2.2.2.2.2.2.2.2.2.2.2.1
@[irreducible] noncomputable def un : Nat := d.2.2.2.2.2.2.2.2.2.2.2.2.2.2.1
@[irreducible] noncomputable def gd : Option (List Code) := d.2.2.2.2.2.2.2.2.2.2.2.2.2.2.2.1
@[irreducible] noncomputable def outer : List Env := d.2.2.2.2.2.2.2.2.2.2.2.2.2.2.2.2.1
@[irreducible] noncomputable def A₀ : Around := d.2.2.2.2.2.2.2.2.2.2.2.2.2.2.2.2.2.1
@[irreducible] noncomputable def base : Heap := d.2.2.2.2.2.2.2.2.2.2.2.2.2.2.2.2.2.2.1
@[irreducible] noncomputable def g : Heap := d.2.2.2.2.2.2.2.2.2.2.2.2.2.2.2.2.2.2.2.1
@[irreducible] noncomputable def L : Addr := d.2.2.2.2.2.2.2.2.2.2.2.2.2.2.2.2.2.2.2.2.1
@[irreducible] noncomputable def h₁ : Heap := d.2.2.2.2.2.2.2.2.2.2.2.2.2.2.2.2.2.2.2.2.2.1
@[irreducible] noncomputable def rest : List (Addr × Obj) := d.2.2.2.2.2.2.2.2.2.2.2.2.2.2.2.2.2.2.2.2.2.2.1
@[irreducible] noncomputable def s : Shared := d.2.2.2.2.2.2.2.2.2.2.2.2.2.2.2.2.2.2.2.2.2.2.2.1
@[irreducible] noncomputable def tk : Nat := d.2.2.2.2.2.2.2.2.2.2.2.2.2.2.2.2.2.2.2.2.2.2.2.2
set_option maxRecDepth 100000 in
set_option maxHeartbeats 4000000 in
theorem core : mark PySem.Challenge.rw_us0019_01 K01 (G w I l oI vs i k n os rst mean mg mb dp un gd outer A₀ base g L h₁ rest s tk) := by
  k_fill
  unfold mark G PlainH
  (try dsimp only [pa5, bd5, sc5])
  intro hi hIl hI hsm hlen hrd
  intro B K T F N hR hE hsep hd hu
  simp only [List.cons_append, List.nil_append] at N
  have hRI : ∀ p ∈ (l, listOf vs.toArray k) :: rest, p.1 ≠ I := fun p hp => by
    rcases List.mem_cons.mp hp with rfl | hp
    · exact hIl
    · exact hsep p hp _ (.head _)
  obtain ⟨b0, r0, hb0⟩ : ∃ b0 r0, os.drop i = b0 :: r0 := by
    cases hd0 : os.drop i with
    | nil => rw [hd0] at hrd; cases hrd
    | cons b r => exact ⟨b, r, rfl⟩
  rw [hb0] at hrd
  refine pack fun G9 hG9 => ?_
  obtain ⟨ht0, hdr0⟩ := drop_at hb0
  obtain ⟨t0, hv0⟩ := nat_at hI ht0
  refine hG9 ?_
  clear hG9
  k_steps
  unfold Stop
  refine next_item F N hRI hi (.head _) hv0 ?_
  intro h' oI' F' N' hi'
  k_steps
  unfold Stop
  rename Fr _ _ _ _ => F9
  rename News _ _ _ _ => N9
  rw [and63] at F9
  refine While_inv (fun z m₁ news₁ => ∃ (val b j : Nat) (oJ : Obj) (tv tb : Tok) (rem : List Nat), z = rem.length ∧ vloop val b rem = some (n, rst) ∧ os.drop j = rem ∧ j ≤ os.length ∧ b < 128 ∧ val < 2 ^ (6 * j) ∧ LiAt oJ l j ∧
    m₁ (PySem.Str.ofString "val") = some (.int (val : Int) tv) ∧ m₁ (PySem.Str.ofString "b") = some (.int (b : Int) tb) ∧ m₁ (PySem.Str.ofString "iterator") = some (.ref I) ∧ news₁ = (I, oJ) :: (l, listOf vs.toArray k) :: rest) (n₀ := r0.length) F9 N9 ?start ?turn
  case start =>
    have hlt := (List.getElem?_eq_some_iff.mp ht0).1
    refine ⟨b0 % 64, b0, i + 1, oI', _, _, r0, rfl, hrd, hdr0, hlt, hsm b0 (List.mem_of_getElem? ht0), ?_, hi', rfl, rfl, rfl, rfl⟩
    have : 2 ^ 6 ≤ 2 ^ (6 * (i + 1)) := Nat.pow_le_pow_right (by decide) (by omega)
    omega
  case turn =>
    intro z m₁ news₁ h₁ tk₁ F₁ N₁ hPk1
    refine pack fun G9 hG9 => ?_
    obtain ⟨val, b, j, oJ, tv, tb, rem, rfl, hvl, hdj, hjl, hb, hval, hJ, j1, j2, j3, rfl⟩ := hPk1
    refine hG9 ?_
    clear hG9
    clear F9 N9
    rw [nm1 j3, under (nm1 j2), under (under (nm1 j1))] at F₁
    k_steps
    · rename Builtin.bitAnd _ 64 ≠ 0 => h64
      rw [and64 hb] at h64
      have hb64 : ¬ b < 64 := fun h9 => h64 (by rw [if_pos h9])
      refine pack fun G9 hG9 => ?_
      obtain ⟨c, q, rfl, hvl'⟩ := vloop_more hb64 hvl
      obtain ⟨htj, hdj'⟩ := drop_at hdj
      obtain ⟨tj, hvj⟩ := nat_at hI htj
      refine hG9 ?_
      clear hG9
      have hjlt := (List.getElem?_eq_some_iff.mp htj).1
      have hbits : Builtin.Int.intBits (val : Int) ≤ 6 * j := intBits_le_iff.mpr (by simpa using hval)
      refine ilshift_int (by decide) ?_ ?_
      · have : (Builtin.Int.intBits (val : Int) : Int) ≤ ((6 * j : Nat) : Int) := Int.ofNat_le.mpr hbits
        rw [show (2 : Int) ^ 27 = 134217728 by decide]
        omega
      have e6 : (val : Int) * 2 ^ (6 : Int).toNat = ((val * 64 : Nat) : Int) := by
        rw [show (2 : Int) ^ (6 : Int).toNat = 64 by decide]; omega
      rw [e6]
      k_steps
      unfold Stop
      rename Fr _ _ _ _ => F2
      rename News _ _ _ _ => N2
      refine next_item F2 N2 hRI hJ (.head _) hvj ?_
      intro h' oJ' F' N' hJ'
      clear F2 N2
      k_steps
      rename Fr _ _ _ _ => F2
      rename News _ _ _ _ => N2
      rw [and63, or_low (Nat.mod_lt _ (by decide))] at F2
      refine WhileStep.intro (n' := q.length) F2 N2 (by simp) ⟨val * 64 + c % 64, c, j + 1, oJ', _, _, q, rfl, hvl', hdj', hjlt, hsm c (List.mem_of_getElem? htj), ?_, hJ', rfl, rfl, rfl, rfl⟩
      rw [show 6 * (j + 1) = 6 * j + 6 by omega, Nat.pow_add]
      have hc64 : c % 64 < 64 := Nat.mod_lt _ (by decide)
      have : val * 64 + 64 ≤ 2 ^ (6 * j) * 64 := by
        have := Nat.mul_le_mul_right 64 (show val + 1 ≤ 2 ^ (6 * j) from hval)
        omega
      show val * 64 + c % 64 < 2 ^ (6 * j) * 64
      omega
    · rename Builtin.bitAnd _ 64 = 0 => h64
      rw [and64 hb] at h64
      have hb64 : b < 64 := Decidable.byContradiction fun h9 => by rw [if_neg h9] at h64; cases h64
      rw [vloop_stop hb64] at hvl
      refine pack fun G9 hG9 => ?_
      obtain ⟨rfl, rfl⟩ := Prod.mk.inj (Option.some.inj hvl)
      refine hG9 ?_
      clear hG9
      dsimp only
      exact Back.intro [(I, oJ), (l, listOf vs.toArray k)] (by assumption) (by assumption) ⟨oJ, j, tv, hJ, hdj, rfl, rfl⟩ (NewOk.same rfl)
theorem all (d : D) : H d := by
  refine eps_all ne H ?_ d
  have h := core
  unfold mark w I l oI vs i k n os rst mean mg mb dp un gd outer A₀ base g L h₁ rest s tk NVar.d at h
  exact h
end NVar
set_option maxRecDepth 100000 in
set_option maxHeartbeats 4000000 in
theorem varint {w : World} {I l : Addr} {oI : Obj} {vs : List Value} {i k n : Nat} {os rst : List Nat} (hi : LiAt oI l i) (hIl : l ≠ I) (hI : IntsAre vs (os.map Int.ofNat)) (hsm : ∀ c ∈ os, c < 128) (hlen : os.length < 10000) (hrd : vread (os.drop i) = some (n, rst)) : mark PySem.Challenge.rw_us0019_01 K01
   (Spec w 48 [.ref I] [] 20 200 [(I, oI), (l, listOf vs.toArray k)] fun r E' => ∃ oI' j t, LiAt oI' l j ∧ os.drop j = rst ∧ r = .int (n : Int) t ∧ E' = [(I, oI'), (l, listOf vs.toArray k)]) := by
  ((k_fill; unfold mark; (k_dflt (refine' spec_plain ?ho ?hcd ?hd1 ?hb ?hl ?hco ?hg ?hk ?hce ?_; (case ho => k_is); (case hcd => k_is); (case hd1 => decide); (case hb => intro _ KX; first | exact BindsTo.of_eq rfl | exact binds_K KX rfl (by k_is) rfl rfl rfl); (case hl => exact locs rfl); (case hco => exact rfl); (case hg => exact rfl); (case hk => exact rfl); (case hce => decide)); (try dsimp only [pa5, bd5, sc5]))))
  intro mean mg mb dp un gd outer A₀ base g L h₁ rest s tk
  exact NVar.all ⟨w, I, l, oI, vs, i, k, n, os, rst, mean, mg, mb, dp, un, gd, outer, A₀, base, g, L, h₁, rest, s, tk⟩ hi hIl hI hsm hlen hrd
end
section
set_option autoImplicit false
set_option tactic.hygienic false
noncomputable def octN (n : Nat) : List Nat := go n [n % 64]
where go (n : Nat) (acc : List Nat) : List Nat := if h : n < 64 then acc else go (n / 64) ((n / 64 % 64 + 64) :: acc)
termination_by n
decreasing_by omega
theorem octN_go_stop {n : Nat} {acc : List Nat} (h : n < 64) : octN.go n acc = acc := by rw [octN.go, dif_pos h]
theorem octN_go_step {n : Nat} {acc : List Nat} (h : ¬ n < 64) : octN.go n acc = octN.go (n / 64) ((n / 64 % 64 + 64) :: acc) := by rw [octN.go, dif_neg h]
theorem octLoop_eq : ∀ (k n : Nat) (acc : List Nat), n ≤ k → octLoop n (acc.map Int.ofNat) = (octN.go n acc).map Int.ofNat
  | 0, n, acc, h => by rw [octLoop_stop (by omega), octN_go_stop (by omega)]
  | k + 1, n, acc, h => by
    by_cases hn : n < 64
    · rw [octLoop_stop hn, octN_go_stop hn]
    · rw [octLoop_step hn, octN_go_step hn, ← octLoop_eq k (n / 64) _ (by omega)]
      rfl
theorem octOf_eq (n : Nat) : octOf n = (octN n).map Int.ofNat := octLoop_eq n n [n % 64] (Nat.le_refl _)
theorem go_small : ∀ (k n : Nat) (acc : List Nat), n ≤ k → (∀ c ∈ acc, c < 128) → ∀ c ∈ octN.go n acc, c < 128
  | 0, n, acc, h, ha => by rw [octN_go_stop (by omega)]; exact ha
  | k + 1, n, acc, h, ha => by
    by_cases hn : n < 64
    · rw [octN_go_stop hn]; exact ha
    · rw [octN_go_step hn]
      refine go_small k (n / 64) _ (by omega) fun c hc => ?_
      rcases List.mem_cons.mp hc with rfl | hc
      · omega
      · exact ha c hc
theorem oct_small (n : Nat) : ∀ c ∈ octN n, c < 128 := go_small n n _ (Nat.le_refl _) (by simp; omega)
theorem go_read : ∀ (k n : Nat) (acc : List Nat) (N : Nat) (rest : List Nat), n ≤ k → acc ≠ [] →
    (∀ hd, vread (hd :: acc ++ rest) = vread (hd :: acc ++ rest)) → (n < 64 → vread (acc ++ rest) = some (N, rest)) →
    (¬ n < 64 → ∀ v b, 64 ≤ b → v % 64 = b % 64 → v = n / 64 → vloop v b (acc ++ rest) = some (N, rest)) → vread (octN.go n acc ++ rest) = some (N, rest)
  | 0, n, acc, N, rest, h, _, _, h1, _ => by rw [octN_go_stop (by omega)]; exact h1 (by omega)
  | k + 1, n, acc, N, rest, h, hne, _, h1, h2 => by
    by_cases hn : n < 64
    · rw [octN_go_stop hn]; exact h1 hn
    · rw [octN_go_step hn]
      refine go_read k (n / 64) _ N rest (by omega) (by simp) (fun _ => rfl) (fun hs => ?_) (fun hs v b hb hv he => ?_)
      · show vloop ((n / 64 % 64 + 64) % 64) (n / 64 % 64 + 64) (acc ++ rest) = _
        exact h2 hn _ _ (Nat.le_add_left 64 _) (Nat.mod_mod _ _) (by rw [Nat.add_mod_right, Nat.mod_mod, Nat.mod_eq_of_lt hs])
      · show vloop v b ((n / 64 % 64 + 64) :: acc ++ rest) = _
        rw [List.cons_append, vloop, if_neg (Nat.not_lt.mpr hb)]
        exact h2 hn _ _ (Nat.le_add_left 64 _) (by rw [Nat.mul_add_mod_self_right, Nat.mod_mod]) (by rw [he, Nat.add_mod_right, Nat.mod_mod]; exact Nat.div_add_mod' (n / 64) 64)
theorem oct_vread (n : Nat) (rest : List Nat) : vread (octN n ++ rest) = some (n, rest) := by
  refine go_read n n [n % 64] n rest (Nat.le_refl _) (by simp) (fun _ => rfl) (fun h => ?_) (fun h v b hb hv he => ?_)
  · show vloop (n % 64 % 64) (n % 64) rest = _
    rw [vloop_stop (Nat.mod_lt _ (by decide)), Nat.mod_mod, Nat.mod_eq_of_lt h]
  · show vloop v b (n % 64 :: rest) = _
    rw [vloop, if_neg (Nat.not_lt.mpr hb), vloop_stop (Nat.mod_lt _ (by decide)), Nat.mod_mod, he, Nat.div_add_mod' n 64]
noncomputable def tapeOf (base : Nat) (ps : List (Nat × Nat)) : List Nat := ps.flatMap fun pc => octN (pc.1 * base + pc.2)
theorem tape_small (base : Nat) (ps : List (Nat × Nat)) : ∀ c ∈ tapeOf base ps, c < 128 := fun c hc => by
  obtain ⟨pc, _, h⟩ := List.mem_flatMap.mp hc
  exact oct_small _ c h
theorem tape_read {base : Nat} {pc : Nat × Nat} {ps : List (Nat × Nat)} : vread (tapeOf base (pc :: ps)) = some (pc.1 * base + pc.2, tapeOf base ps) := by
  unfold tapeOf
  rw [List.flatMap_cons]
  exact oct_vread _ _
theorem pieces_at {row : List Nat} : ∀ {ps : List (Nat × Nat)} {n : Nat}, Pieces row ps n → ∀ {a : List (Nat × Nat)} {pc : Nat × Nat} {b : List (Nat × Nat)}, ps = a ++ pc :: b → Pieces row a (sumTo a) ∧ IsPiece row (sumTo a) pc ∧ sumTo a < row.length := by
  intro ps n h
  induction h with
  | nil => intro a pc b e; simp at e
  | @snoc ps q pc' h hq hp ih =>
    intro a pc b e
    rcases List.eq_nil_or_concat b with rfl | ⟨b', x, rfl⟩
    · have := List.append_inj' e rfl
      obtain ⟨rfl, e2⟩ := this
      obtain rfl := (List.cons.inj e2).1
      rw [(pieces_cuts h).1]
      exact ⟨h, hp, hq⟩
    · rw [List.concat_eq_append] at e
      have e' : ps ++ [pc'] = (a ++ pc :: b') ++ [x] := by simpa using e
      exact ih (List.append_inj' e' rfl).1
theorem sum_snoc (a : List (Nat × Nat)) (pc : Nat × Nat) : sumTo (a ++ [pc]) = sumTo a + max 1 pc.1 := by unfold sumTo; rw [List.map_append, List.sum_append]; simp
end
section
set_option autoImplicit false
noncomputable def namesOf (ws : List PySem.Str) : List PySem.Str := (rowOf ws).1
theorem names_snoc (ws : List PySem.Str) (x : PySem.Str) : namesOf (ws ++ [x]) = if (namesOf ws).any (· == x) then namesOf ws else namesOf ws ++ [x] := by unfold namesOf; rw [rowOf_snoc]; rfl
theorem row_snoc (ws : List PySem.Str) (x : PySem.Str) : (rowOf (ws ++ [x])).2 = (rowOf ws).2 ++ [97 + (namesOf (ws ++ [x])).idxOf x] := by
  rw [rowOf_snoc, names_snoc]; rfl
theorem any_mem {l : List PySem.Str} {x : PySem.Str} : l.any (· == x) = true ↔ x ∈ l := by simp
theorem names_mem : ∀ (n : Nat) (ws : List PySem.Str), ws.length = n → ∀ x, x ∈ namesOf ws ↔ x ∈ ws
  | 0, ws, h, x => by rw [List.length_eq_zero_iff.mp h]; exact Iff.rfl
  | n + 1, ws, h, x => by
    obtain ⟨l, y, rfl⟩ : ∃ l y, ws = l ++ [y] := by
      rcases List.eq_nil_or_concat ws with rfl | ⟨l, y, rfl⟩
      · cases h
      · exact ⟨l, y, by rw [List.concat_eq_append]⟩
    have ih := names_mem n l (by simpa using h)
    rw [names_snoc]
    by_cases hy : (namesOf l).any (· == y) = true
    · rw [if_pos hy, ih x, List.mem_append, List.mem_singleton]
      have := (ih y).mp (any_mem.mp hy)
      constructor
      · exact .inl
      · rintro (h1 | rfl)
        · exact h1
        · exact this
    · rw [if_neg hy, List.mem_append, List.mem_append, ih x]
theorem names_prefix : ∀ (n : Nat) (a b : List PySem.Str), b.length = n → namesOf a <+: namesOf (a ++ b)
  | 0, a, b, h => by rw [List.length_eq_zero_iff.mp h, List.append_nil]; exact List.prefix_refl _
  | n + 1, a, b, h => by
    obtain ⟨l, y, rfl⟩ : ∃ l y, b = l ++ [y] := by
      rcases List.eq_nil_or_concat b with rfl | ⟨l, y, rfl⟩
      · cases h
      · exact ⟨l, y, by rw [List.concat_eq_append]⟩
    have ih := names_prefix n a l (by simpa using h)
    rw [← List.append_assoc, names_snoc]
    split
    · exact ih
    · exact ih.trans (List.prefix_append _ _)
theorem names_take (ws : List PySem.Str) (q : Nat) : namesOf (ws.take q) <+: namesOf ws := by
  have := names_prefix _ (ws.take q) (ws.drop q) rfl
  rwa [List.take_append_drop] at this
theorem idx_prefix {a b : List PySem.Str} {x : PySem.Str} (h : a <+: b) (hx : x ∈ a) : b.idxOf x = a.idxOf x := by
  obtain ⟨t, rfl⟩ := h
  rw [List.idxOf_append, if_pos hx]
theorem row_len (ws : List PySem.Str) : (rowOf ws).2.length = ws.length := (rowOf_len _ ws rfl).2
theorem row_at : ∀ (n : Nat) (ws : List PySem.Str), ws.length = n → ∀ (i : Nat) (x : PySem.Str), ws[i]? = some x → (rowOf ws).2[i]? = some (97 + (namesOf ws).idxOf x)
  | 0, ws, h, i, x, hx => by rw [List.length_eq_zero_iff.mp h] at hx; simp at hx
  | n + 1, ws, h, i, x, hx => by
    obtain ⟨l, y, rfl⟩ : ∃ l y, ws = l ++ [y] := by
      rcases List.eq_nil_or_concat ws with rfl | ⟨l, y, rfl⟩
      · cases h
      · exact ⟨l, y, by rw [List.concat_eq_append]⟩
    have hl : l.length = n := by simpa using h
    have ih := row_at n l hl
    rw [row_snoc]
    rcases Nat.lt_or_ge i n with hi | hi
    · have hx' : l[i]? = some x := by rwa [List.getElem?_append_left (by omega)] at hx
      rw [List.getElem?_append_left (by rw [row_len]; omega), ih i x hx']
      have hm : x ∈ namesOf l := (names_mem _ l rfl x).mpr (List.mem_of_getElem? hx')
      rw [idx_prefix (names_prefix _ l [y] rfl) hm]
    · have hi' : i = n := by have := (List.getElem?_eq_some_iff.mp hx).1; rw [List.length_append, List.length_singleton] at this; omega
      subst hi'
      rw [List.getElem?_append_right (by omega), hl, Nat.sub_self] at hx
      obtain rfl : y = x := by simpa using hx
      rw [List.getElem?_append_right (by rw [row_len]; omega), row_len, hl, Nat.sub_self]
      rfl
theorem idx_inj {l : List PySem.Str} {x y : PySem.Str} (hx : x ∈ l) (h : l.idxOf x = l.idxOf y) : x = y := by
  have h1 : l.idxOf x < l.length := List.idxOf_lt_length_iff.mpr hx
  have h2 : l[l.idxOf x]? = some x := by rw [List.getElem?_eq_getElem h1, List.getElem_idxOf]
  have h3 : l[l.idxOf y]? = some y := by rw [List.getElem?_eq_getElem (h ▸ h1), List.getElem_idxOf]
  rw [h, h3] at h2
  exact (Option.some.inj h2).symm
theorem row_iff {ws : List PySem.Str} {i j : Nat} (hi : i < ws.length) (hj : j < ws.length) : (rowOf ws).2[i]? = (rowOf ws).2[j]? ↔ ws[i]? = ws[j]? := by
  have ei := List.getElem?_eq_getElem hi
  have ej := List.getElem?_eq_getElem hj
  rw [row_at _ ws rfl i _ ei, row_at _ ws rfl j _ ej, ei, ej]
  constructor
  · intro h
    have := Option.some.inj h
    exact congrArg some (idx_inj (l := namesOf ws) (x := ws[i]) (y := ws[j]) ((names_mem _ ws rfl _).mpr (List.getElem_mem hi)) (by omega))
  · intro h; rw [Option.some.inj h]
theorem dec_new {ws : List PySem.Str} {q : Nat} {pc : Nat × Nat} (hq : q < ws.length) (hp : IsPiece (rowOf ws).2 q pc) (h0 : pc.1 = 0) :
    namesOf (ws.take (q + 1)) = namesOf (ws.take q) ++ [ws[q]] ∧ (namesOf ws).drop (namesOf (ws.take q)).length = ws[q] :: (namesOf ws).drop (namesOf (ws.take (q + 1))).length := by
  have hnew : ws[q] ∉ ws.take q := fun hm => by
    obtain ⟨o, ho, e⟩ := List.mem_iff_getElem.mp hm
    rw [List.length_take] at ho
    rw [List.getElem_take] at e
    have hoq : o < q := by omega
    have := hp.1 o hoq
    have hl : (rowOf ws).2[o]? = (rowOf ws).2[q]? := (row_iff (by omega) hq).mpr (by rw [List.getElem?_eq_getElem (by omega), List.getElem?_eq_getElem hq, e])
    have h1 := lcp_more (a := (rowOf ws).2.drop o) (b := (rowOf ws).2.drop q) (k := 0) (c := (rowOf ws).2[q]'(by rw [row_len]; exact hq)) (Nat.zero_le _) (by rw [List.getElem?_drop, Nat.add_zero, hl]; exact List.getElem?_eq_getElem _) (by rw [List.getElem?_drop, Nat.add_zero]; exact List.getElem?_eq_getElem _)
    omega
  have htk : ws.take (q + 1) = ws.take q ++ [ws[q]] := by rw [List.take_add_one, List.getElem?_eq_getElem hq]; rfl
  have h1 : namesOf (ws.take (q + 1)) = namesOf (ws.take q) ++ [ws[q]] := by
    rw [htk, names_snoc, if_neg (fun h => hnew ((names_mem _ _ rfl _).mp (any_mem.mp h)))]
  refine ⟨h1, ?_⟩
  obtain ⟨t, ht⟩ := names_take ws (q + 1)
  rw [← ht, h1]
  simp
theorem dec_old {ws : List PySem.Str} {q st : Nat} {pc : Nat × Nat} (hq : q + pc.1 ≤ ws.length) (hp : IsPiece (rowOf ws).2 q pc) (h0 : 0 < pc.1) (hst : st < pc.1) :
    1 ≤ pc.2 ∧ pc.2 ≤ q ∧ ws[q + st - pc.2]? = ws[q + st]? ∧ namesOf (ws.take (q + st + 1)) = namesOf (ws.take (q + st)) := by
  rcases hp.2 with ⟨h, _⟩ | ⟨_, h1, h2, h3⟩
  · exact absurd h (Nat.ne_of_gt h0)
  have hlt : q + st < ws.length := Nat.lt_of_lt_of_le (Nat.add_lt_add_left hst q) hq
  have hld : q - pc.2 + st < q + st := Nat.add_lt_add_right (Nat.sub_lt (Nat.lt_of_lt_of_le h1 h2) h1) st
  have hl : (rowOf ws).2[q - pc.2 + st]? = (rowOf ws).2[q + st]? := by
    have := lcp_less (a := (rowOf ws).2.drop (q - pc.2)) (b := (rowOf ws).2.drop q) (k := st) (by omega)
    rwa [List.getElem?_drop, List.getElem?_drop] at this
  have hw := (row_iff (Nat.lt_trans hld hlt) hlt).mp hl
  have e9 : q + st - pc.2 = q - pc.2 + st := Nat.sub_add_comm h2
  refine ⟨h1, h2, by rw [e9]; exact hw, ?_⟩
  have htk : ws.take (q + st + 1) = ws.take (q + st) ++ [ws[q + st]] := by rw [List.take_add_one, List.getElem?_eq_getElem hlt]; rfl
  rw [htk, names_snoc, if_pos]
  rw [any_mem, names_mem _ _ rfl]
  rw [List.getElem?_eq_getElem hlt] at hw
  refine List.mem_of_getElem? (i := q - pc.2 + st) ?_
  rw [List.getElem?_take, if_pos hld]
  exact hw
end
section
noncomputable def hitB (ws : List PySem.Str) (p e o : Nat) : Bool := ((ws.drop o).take (e - p)) == ((ws.drop p).take (e - p))
noncomputable def farOf (ws : List PySem.Str) (p j : Nat) : List Nat := (p + 1) :: ((List.range j).map fun i => p + 2 + i).filter fun e => (List.range p).any (hitB ws p e)
theorem farOf_succ (ws : List PySem.Str) (p j : Nat) : farOf ws p (j + 1) = if (List.range p).any (hitB ws p (p + 2 + j)) then farOf ws p j ++ [p + 2 + j] else farOf ws p j := by
  unfold farOf
  rw [List.range_succ, List.map_append, List.filter_append]
  split
  · rename_i h; simp [h]
  · rename_i h; simp [h]
theorem far_len (ws : List PySem.Str) (p j : Nat) : (farOf ws p j).length ≤ j + 1 := by
  unfold farOf
  have := List.length_filter_le (fun e => (List.range p).any (hitB ws p e)) ((List.range j).map fun i => p + 2 + i)
  rw [List.length_map, List.length_range] at this
  rw [List.length_cons]; omega
inductive Fars (ws : List PySem.Str) : Nat → List (Addr × Obj) → List Value → Prop
  | nil : Fars ws 0 [] []
  | snoc {i : Nat} {tl : List (Addr × Obj)} {vs fv : List Value} {a : Addr} {k : Nat} (h : Fars ws i tl vs) (hf : IntsAre fv ((farOf ws i (ws.length - 1 - i)).map Int.ofNat)) : Fars ws (i + 1) (tl ++ [(a, listOf fv.toArray k)]) (vs ++ [.ref a])
theorem Fars.len {ws : List PySem.Str} {i : Nat} {tl : List (Addr × Obj)} {vs : List Value} (h : Fars ws i tl vs) : vs.length = i := by
  induction h with
  | nil => rfl
  | snoc h hf ih => rw [List.length_append, ih]; rfl
theorem Fars.get {ws : List PySem.Str} {i : Nat} {tl : List (Addr × Obj)} {vs : List Value} (h : Fars ws i tl vs) : ∀ q, q < i → ∃ a fv k, vs[q]? = some (.ref a) ∧ (a, listOf fv.toArray k) ∈ tl ∧ IntsAre fv ((farOf ws q (ws.length - 1 - q)).map Int.ofNat) := by
  induction h with
  | nil => intro q h; omega
  | @snoc i tl vs fv a k h hf ih =>
    intro q hq
    by_cases e : q < i
    · obtain ⟨a', fv', k', h1, h2, h3⟩ := ih q e
      exact ⟨a', fv', k', by rw [List.getElem?_append_left (by rw [h.len]; exact e)]; exact h1, List.mem_append_left _ h2, h3⟩
    · obtain rfl : q = i := by omega
      exact ⟨a, fv, k, by rw [List.getElem?_append_right (by rw [h.len]; exact Nat.le_refl _), h.len]; simp, by simp, hf⟩
theorem drop_take_iff {α β : Type} {a : List α} {b : List β} (hl : a.length = b.length) (H : ∀ i j, i < a.length → j < a.length → (a[i]? = a[j]? ↔ b[i]? = b[j]?)) {o p n : Nat} (ho : o + n ≤ a.length) (hp : p + n ≤ a.length) :
    ((a.drop o).take n = (a.drop p).take n ↔ (b.drop o).take n = (b.drop p).take n) := by
  have key : ∀ {γ : Type} (c : List γ), c.length = a.length → ((c.drop o).take n = (c.drop p).take n ↔ ∀ i, i < n → c[o + i]? = c[p + i]?) := fun c hc => by
    constructor
    · intro h i hi
      have := congrArg (fun l => l[i]?) h
      simpa only [List.getElem?_take, if_pos hi, List.getElem?_drop] using this
    · intro h
      apply List.ext_getElem?
      intro i
      rw [List.getElem?_take, List.getElem?_take]
      split
      · rename_i hi; rw [List.getElem?_drop, List.getElem?_drop]; exact h i hi
      · rfl
  rw [key a rfl, key b hl.symm]
  exact ⟨fun h i hi => (H _ _ (by omega) (by omega)).mp (h i hi), fun h i hi => (H _ _ (by omega) (by omega)).mpr (h i hi)⟩
theorem farOf_mem {ws : List PySem.Str} {p e : Nat} (hp : p < ws.length) : e ∈ farOf ws p (ws.length - 1 - p) ↔ IsFar (rowOf ws).2 p e := by
  unfold farOf IsFar
  have hl := row_len ws
  have e1 : ∀ i, p + 2 + i - p = 2 + i := fun i => by rw [Nat.add_assoc, Nat.add_sub_cancel_left]
  have hio : ∀ {i o : Nat}, o < p → p + (2 + i) ≤ ws.length → o + (2 + i) ≤ ws.length := fun ho hk => Nat.le_trans (Nat.add_le_add_right (Nat.le_of_lt ho) _) hk
  have hii : ∀ {i : Nat}, i < ws.length - 1 - p ↔ p + (2 + i) ≤ ws.length := fun {i} => by omega
  simp only [List.mem_cons, List.mem_filter, List.mem_map, List.mem_range, List.any_eq_true]
  refine or_congr Iff.rfl ⟨?_, ?_⟩
  · rintro ⟨⟨i, hi, rfl⟩, o, ho, hh⟩
    have hk := hii.mp hi
    unfold hitB at hh
    rw [e1] at hh ⊢
    exact ⟨Nat.le_add_right _ _, by rw [hl, Nat.add_assoc]; exact hk, o, ho, (drop_take_iff (a := ws) (b := (rowOf ws).2) hl.symm (fun i j hi hj => (row_iff hi hj).symm) (hio ho hk) hk).mp (eq_of_beq hh)⟩
  · rintro ⟨h1, h2, o, ho, h3⟩
    obtain ⟨i, rfl⟩ := Nat.exists_eq_add_of_le h1
    have hk : p + (2 + i) ≤ ws.length := by rw [← Nat.add_assoc, ← hl]; exact h2
    rw [e1] at h3
    refine ⟨⟨i, hii.mpr hk, rfl⟩, o, ho, ?_⟩
    unfold hitB
    rw [e1]
    exact beq_iff_eq.mpr ((drop_take_iff (a := ws) (b := (rowOf ws).2) hl.symm (fun i j hi hj => (row_iff hi hj).symm) (hio ho hk) hk).mpr h3)
end
section
set_option tactic.hygienic false
theorem last_max {l : List Int} {M : Int} (hs : l.Pairwise (· ≤ ·)) (hm : M ∈ l) (ha : ∀ x ∈ l, x ≤ M) : l.getLast? = some M := by
  rcases List.eq_nil_or_concat l with rfl | ⟨i, x, rfl⟩
  · cases hm
  · rw [List.concat_eq_append] at *
    rw [List.getLast?_append]
    simp only [List.getLast?_singleton, Option.some_or]
    have h1 : x ≤ M := ha x (by simp)
    have h2 : M ≤ x := by
      rcases List.mem_append.mp hm with h | h
      · exact (List.pairwise_append.mp hs).2.2 M h x (by simp)
      · rw [List.mem_singleton.mp h]; exact Int.le_refl _
    rw [Int.le_antisymm h1 h2]
theorem nat_list : ∀ {l : List Int}, (∀ x ∈ l, 0 ≤ x) → (l.map Int.toNat).map Int.ofNat = l
  | [], _ => rfl
  | a :: r, h => by
    rw [List.map_cons, List.map_cons, nat_list fun x hx => h x (.tail _ hx)]
    have := h a (.head _)
    congr 1
    exact Int.toNat_of_nonneg this
noncomputable def farsOf (ws : List PySem.Str) (o : List Nat) : List Nat := o.flatMap fun q => farOf ws q (ws.length - 1 - q)
theorem fars_mem {ws : List PySem.Str} {o : List Nat} {p e : Nat} (hp : p < ws.length) (hall : ∀ q ∈ o, q ≤ p) : e ∈ farsOf ws o ↔ ∃ q ∈ o, IsFar (rowOf ws).2 q e := by
  unfold farsOf
  rw [List.mem_flatMap]
  exact ⟨fun ⟨q, hq, h⟩ => ⟨q, hq, (farOf_mem (by have := hall q hq; omega)).mp h⟩, fun ⟨q, hq, h⟩ => ⟨q, hq, (farOf_mem (by have := hall q hq; omega)).mpr h⟩⟩
theorem farsOf_len {ws : List PySem.Str} {p : Nat} (hp : p < ws.length) : ∀ {o : List Nat}, (∀ q ∈ o, q ≤ p) → (farsOf ws o).length ≤ o.length * (ws.length + 1)
  | [], _ => by simp [farsOf]
  | q :: r, h => by
    have ih := farsOf_len hp (o := r) fun x hx => h x (.tail _ hx)
    have h1 := far_len ws q (ws.length - 1 - q)
    unfold farsOf at *
    rw [List.flatMap_cons, List.length_append, List.length_cons, Nat.add_mul, Nat.one_mul]
    omega
theorem fars_lt {ws : List PySem.Str} {o : List Nat} {p : Nat} (hp : p < ws.length) (hall : ∀ q ∈ o, q ≤ p) : ∀ e ∈ farsOf ws o, e ≤ ws.length := fun e he => by
  obtain ⟨q, hq, hf⟩ := (fars_mem hp hall).mp he
  have hl := row_len ws
  have h1 := far_le hf
  have h2 := reach_le (row := (rowOf ws).2) (p := q) (by have := hall q hq; omega)
  omega
theorem reach_next {ws : List PySem.Str} {o : List Nat} {p : Nat} (hp : p < ws.length) (hin : p ∈ o) (hall : ∀ q ∈ o, q ≤ p) {ds : List Int} (hd : ∀ k, k ∈ ds ↔ k ∈ (farsOf ws o).map Int.ofNat) (hnd : ds.Nodup) :
    ds.length ≤ ws.length + 1 ∧ ∀ ns : List Int, ns.Perm ds → ns.Pairwise (· ≤ ·) → ∃ o' : List Nat, ns = o'.map Int.ofNat ∧ (∀ q ∈ o', q ≤ reachE (rowOf ws).2 p) ∧ o'.getLast? = some (reachE (rowOf ws).2 p) ∧ o'.length ≤ ws.length + 1 := by
  have hl := row_len ws
  have hmem : ∀ k, k ∈ ds ↔ ∃ e : Nat, k = (e : Int) ∧ ∃ q ∈ o, IsFar (rowOf ws).2 q e := fun k => by
    rw [hd, List.mem_map]
    exact ⟨fun ⟨e, he, hk⟩ => ⟨e, hk.symm, (fars_mem hp hall).mp he⟩, fun ⟨e, hk, he⟩ => ⟨e, (fars_mem hp hall).mpr he, hk.symm⟩⟩
  have hup : ∀ k ∈ ds, 0 ≤ k ∧ k ≤ (reachE (rowOf ws).2 p : Int) := fun k hk => by
    obtain ⟨e, rfl, q, hq, hf⟩ := (hmem k).mp hk
    have h1 := far_le hf
    have h2 := reach_mono (hall q hq) (show p < (rowOf ws).2.length by omega)
    omega
  have hr := reach_le (show p < (rowOf ws).2.length by omega)
  have hlen : ds.length ≤ ws.length + 1 := by
    have hsub : ds ⊆ (List.range (ws.length + 1)).map Int.ofNat := fun k hk => by
      have := hup k hk
      rw [List.mem_map]
      exact ⟨k.toNat, List.mem_range.mpr (by omega), Int.toNat_of_nonneg this.1⟩
    have := List.Nodup.length_le_of_subset hnd hsub
    rwa [List.length_map, List.length_range] at this
  refine ⟨hlen, fun ns hper hsort => ⟨ns.map Int.toNat, (nat_list fun x hx => (hup x (hper.mem_iff.mp hx)).1).symm, ?_, ?_, ?_⟩⟩
  · intro q hq
    obtain ⟨x, hx, rfl⟩ := List.mem_map.mp hq
    have := hup x (hper.mem_iff.mp hx)
    omega
  · have hM : (reachE (rowOf ws).2 p : Int) ∈ ns := hper.mem_iff.mpr ((hmem _).mpr ⟨_, rfl, p, hin, far_reach (by omega)⟩)
    have := last_max hsort hM (fun x hx => (hup x (hper.mem_iff.mp hx)).2)
    rw [List.getLast?_map, this]
    rfl
  · rw [List.length_map, hper.length_eq]; exact hlen
end
section
local macro_rules | `(tactic| walk_at "execs cons") => `(tactic| k_fold)
local macro_rules | `(tactic| walk_at $s:str) => if ["call ref", "call builtin:len", "subscriptTail", "exec While Compare cons nil"].contains s.getString then `(tactic| (refine stopHere ?_)) else Lean.Macro.throwUnsupported
namespace NBr
noncomputable def G (w : World) (a : Addr) (f : Addr) (oc9 : Value) (od9 : Option Addr) (fd : FuncData) (sl9 : Array (Option Value)) (x : PySem.Str) (t : Tok) (t0 : Tok) (vs : List Value) (k : Nat) (ks : Nat → PySem.Str) (EK : List (Addr × Obj)) (mean : ExcName → Option Value) (mg : PySem.Str → Option Value) (mb : PySem.Str → Option Value) (dp : Nat) (un : Nat) (gd : Option (List Code)) (outer : List Env) (A₀ : Around) (base : Heap) (g : Heap) (L : Addr) (h₁ : Heap) (rest : List (Addr × Obj)) (s : Shared) (tk : Nat) : Prop :=
  (vs.length < 1000) → (∀ i v, vs[i]? = some v → Spec w f [v] [] 20 200 ((f, ⟨oc9, od9, .func fd, sl9⟩) :: EK) (fun r E' => E' = (f, ⟨oc9, od9, .func fd, sl9⟩) :: EK ∧ ∃ t, r = .str (ks i) t)) → (∀ q ∈ EK, a ≠ q.1) → (a ≠ f) → PlainH w 32 (PySem.Str.ofString "bisect_right") bd2 sc2 (.ref 31) [(PySem.Str.ofString "a", .ref a), (PySem.Str.ofString "x", .str x t), (PySem.Str.ofString "lo", .int 0 t0), (PySem.Str.ofString "hi", .none), (PySem.Str.ofString "key", .ref f)] 30 300 (((a, listOf vs.toArray k) :: (f, ⟨oc9, od9, .func fd, sl9⟩) :: EK)) (fun r E' => E' = (a, listOf vs.toArray k) :: (f, ⟨oc9, od9, .func fd, sl9⟩) :: EK ∧ ∃ t', r = .int (bisL (fun i => !decide (x.cps.toList < (ks i).cps.toList)) 0 vs.length : Nat) t') mean mg mb dp un gd outer A₀ base g L h₁ rest s tk
noncomputable abbrev D : Type := (World) × (Addr) × (Addr) × (Value) × (Option Addr) × (FuncData) × (Array (Option Value)) × (PySem.Str) × (Tok) × (Tok) × (List Value) × (Nat) × (Nat → PySem.Str) × (List (Addr × Obj)) × (ExcName → Option Value) × (PySem.Str → Option Value) × (PySem.Str → Option Value) × (Nat) × (Nat) × (Option (List Code)) × (List Env) × (Around) × (Heap) × (Heap) × (Addr) × (Heap) × (List (Addr × Obj)) × (Shared) × (Nat)
theorem ne : Nonempty D := ⟨⟨w0, 0, 0, .none, none, default, #[], default, 0, 0, [], 0, fun _ => default, [], fun _ => none, fun _ => none, fun _ => none, 0, 0, none, [], {}, default, default, 0, default, [], {}, 0⟩⟩
noncomputable abbrev H (d : D) : Prop := G d.1 d.2.1 d.2.2.1 d.2.2.2.1 d.2.2.2.2.1 d.2.2.2.2.2.1 d.2.2.2.2.2.2.1 d.2.2.2.2.2.2.2.1 d.2.2.2.2.2.2.2.2.1 d.2.2.2.2.2.2.2.2.2.1 d.2.2.2.2.2.2.2.2.2.2.1 d.2.2.2.2.2.2.2.2.2.2.2.1 d.2.2.2.2.2.2.2.2.2.2.2.2.1 d.2.2.2.2.2.2.2.2.2.2.2.2.2.1 d.2.2.2.2.2.2.2.2.2.2.2.2.2.2.1 d.2.2.2.2.2.2.2.2.2.2.2.2.2.2.2.1 d.2.2.2.2.2.2.2.2.2.2.2.2.2.2.2.2.1 d.2.2.2.2.2.2.2.2.2.2.2.2.2.2.2.2.2.1 d.2.2.2.2.2.2.2.2.2.2.2.2.2.2.2.2.2.2.1 d.2.2.2.2.2.2.2.2.2.2.2.2.2.2.2.2.2.2.2.1 d.2.2.2.2.2.2.2.2.2.2.2.2.2.2.2.2.2.2.2.2.1 d.2.2.2.2.2.2.2.2.2.2.2.2.2.2.2.2.2.2.2.2.2.1 d.2.2.2.2.2.2.2.2.2.2.2.2.2.2.2.2.2.2.2.2.2.2.1 d.2.2.2.2.2.2.2.2.2.2.2.2.2.2.2.2.2.2.2.2.2.2.2.1 d.2.2.2.2.2.2.2.2.2.2.2.2.2.2.2.2.2.2.2.2.2.2.2.2.1 d.2.2.2.2.2.2.2.2.2.2.2.2.2.2.2.2.2.2.2.2.2.2.2.2.2.1 d.2.2.2.2.2.2.2.2.2.2.2.2.2.2.2.2.2.2.2.2.2.2.2.2.2.2.1 d.2.2.2.2.2.2.2.2.2.2.2.2.2.2.2.2.2.2.2.2.2.2.2.2.2.2.2.1 d.2.2.2.2.2.2.2.2.2.2.2.2.2.2.2.2.2.2.2.2.2.2.2.2.2.2.2.2
@[irreducible] noncomputable def d : D := @Classical.epsilon D ne fun d => ¬ H d
@[irreducible] noncomputable def w : World := d.1
@[irreducible] noncomputable def a : Addr := d.2.1
@[irreducible] noncomputable def f : Addr := d.2.2.1
@[irreducible] noncomputable def oc9 : Value := d.2.2.2.1
@[irreducible] noncomputable def od9 : Option Addr := d.2.2.2.2.1
@[irreducible] noncomputable def fd : FuncData := d.2.2.2.2.2.1
@[irreducible] noncomputable def sl9 : Array (Option Value) := d.2.2.2.2.2.2.1
@[irreducible] noncomputable def x : PySem.Str := d.2.2.2.2.2.2.2.1
@[irreducible] noncomputable def t : Tok := d.2.2.2.2.2.2.2.2.1
@[irreducible] noncomputable def t0 : Tok := d.2.2.2.2.2.2.2.2.2.1
@[irreducible] noncomputable def vs : List Value := d.2.2.2.2.2.2.2.2.2.2.1
@[irreducible] noncomputable def k : Nat := d.2.2.2.2.2.2.2.2.2.2.2.1
@[irreducible] noncomputable def ks : Nat → PySem.Str := d.2.2.2.2.2.2.2.2.2.2.2.2.1
@[irreducible] noncomputable def EK : List (Addr × Obj) := d.2.2.2.2.2.2.2.2.2.2.2.2.2.1
@[irreducible] noncomputable def mean : ExcName → Option Value := d.2.2.2.2.2.2.2.2.2.2.2.2.2.2.1
@[irreducible] noncomputable def mg : PySem.Str → Option Value := d.2.2.2.2.2.2.2.2.2.2.2.2.2.2.2.1
@[irreducible] noncomputable def mb : PySem.Str → Option Value := d.2.2.2.2.2.2.2.2.2.2.2.2.2.2.2.2.1
@[irreducible] noncomputable def dp : Nat := d.2.2.2.2.2.2.2.2.2.2.2.2.2.2.2.2.2.1
@[irreducible] noncomputable def un : Nat := d.2.2.2.2.2.2.2.2.2.2.2.2.2.2.2.2.2.2.1
@[irreducible] noncomputable def gd : Option (List Code) := d.2.2.2.2.2.2.2.2.2.2.2.2.2.2.2.2.2.2.2.1
@[irreducible] noncomputable def outer : List Env := d.2.2.2.2.2.2.2.2.2.2.2.2.2.2.2.2.2.2.2.2.1
@[irreducible] noncomputable def A₀ : Around := d.2.2.2.2.2.2.2.2.2.2.2.2.2.2.2.2.2.2.2.2.2.1
@[irreducible] noncomputable def base : Heap := d.2.2.2.2.2.2.2.2.2.2.2.2.2.2.2.2.2.2.2.2.2.2.1
@[irreducible] noncomputable def g : Heap := d.2.2.2.2.2.2.2.2.2.2.2.2.2.2.2.2.2.2.2.2.2.2.2.1
@[irreducible] noncomputable def L : Addr := d.2.2.2.2.2.2.2.2.2.2.2.2.2.2.2.2.2.2.2.2.2.2.2.2.1
@[irreducible] noncomputable def h₁ : Heap := d.2.2.2.2.2.2.2.2.2.2.2.2.2.2.2.2.2.2.2.2.2.2.2.2.2.1
@[irreducible] noncomputable def rest : List (Addr × Obj) := d.2.2.2.2.2.2.2.2.2.2.2.2.2.2.2.2.2.2.2.2.2.2.2.2.2.2.1
@[irreducible] noncomputable def s : Shared := d.2.2.2.2.2.2.2.2.2.2.2.2.2.2.2.2.2.2.2.2.2.2.2.2.2.2.2.1
@[irreducible] noncomputable def tk : Nat := d.2.2.2.2.2.2.2.2.2.2.2.2.2.2.2.2.2.2.2.2.2.2.2.2.2.2.2.2
set_option maxRecDepth 100000 in
set_option maxHeartbeats 4000000 in
theorem core : mark PySem.Challenge.rw_us0019_01 K01 (G w a f oc9 od9 fd sl9 x t t0 vs k ks EK mean mg mb dp un gd outer A₀ base g L h₁ rest s tk) := by
  k_fill
  unfold mark G PlainH
  (try dsimp only [pa2, bd2, sc2])
  intro hn2 hk ha haf
  intro B K T F N hR hE hsep hd hu
  simp only [List.cons_append] at N
  generalize hrest : EK ++ rest = R at N
  have haR : ∀ p ∈ R, p.1 ≠ a := by
    rw [← hrest]
    intro p hp
    rcases List.mem_append.mp hp with hp | hp
    · exact Ne.symm (ha p hp)
    · exact hsep p hp _ (.head _)
  have hsepE : ∀ p ∈ (a, listOf vs.toArray k) :: rest, ∀ q ∈ (f, ⟨oc9, od9, .func fd, sl9⟩) :: EK, p.1 ≠ q.1 := by
    intro p hp q hq
    rcases List.mem_cons.mp hp with rfl | hp
    · rcases List.mem_cons.mp hq with rfl | hq
      · exact haf
      · exact ha q hq
    · exact hsep p hp q (.tail _ hq)
  have C160 := codeHd160 K
  k_steps
  unfold Stop
  refine len_led N (.head _) (by omega) ?_
  intro t1 tk1
  k_steps
  unfold Stop
  rename Fr _ _ _ _ => F9
  rename News _ _ _ ((_, _) :: _) => N9
  refine While_inv (fun j m₁ news₁ => ∃ (lo hi : Nat) (t1 t2 : Tok), j = hi - lo ∧ lo ≤ hi ∧ hi ≤ vs.length ∧ bisL (fun i => !decide (x.cps.toList < (ks i).cps.toList)) lo hi = bisL (fun i => !decide (x.cps.toList < (ks i).cps.toList)) 0 vs.length ∧
    m₁ (PySem.Str.ofString "lo") = some (.int (lo : Int) t1) ∧ m₁ (PySem.Str.ofString "hi") = some (.int (hi : Int) t2) ∧ m₁ (PySem.Str.ofString "a") = some (.ref a) ∧ m₁ (PySem.Str.ofString "x") = some (.str x t) ∧ m₁ (PySem.Str.ofString "key") = some (.ref f) ∧ news₁ = (a, listOf vs.toArray k) :: (f, ⟨oc9, od9, .func fd, sl9⟩) :: R) (n₀ := vs.length) F9 N9 ?start ?turn
  case start =>
    refine ⟨0, vs.length, _, _, rfl, Nat.zero_le _, Nat.le_refl _, rfl, rfl, rfl, rfl, rfl, rfl, rfl⟩
  case turn =>
    rintro j m₁ news₁ h₁ tk₁ F₁ N₁ hI9
    try k_fold
    refine pack fun G9 hG9 => ?_
    obtain ⟨lo, hi, t1, t2, rfl, h1, h2, h3, j1, j2, j3, j4, j5, rfl⟩ := hI9
    refine hG9 ?_
    clear hG9
    clear F9 N9
    rw [nm1 j5, under (nm1 j4), under (under (nm1 j3)), under (under (under (nm1 j2))), under (under (under (under (nm1 j1))))] at F₁
    k_steps
    · unfold Stop
      rename Fr _ _ _ _ => F2
      rename News _ _ _ _ => N2
      have hlt : lo < hi := by omega
      have em : Int.fdiv ((lo : Int) + (hi : Int)) 2 = (((lo + hi) / 2 : Nat) : Int) := by rw [← fdivN]; simp
      have hm : (lo + hi) / 2 < vs.length := Nat.lt_of_lt_of_le (mid_lt hlt) h2
      rw [em]
      simp only [em] at F2
      refine item_led N2 (.head _) (by omega) (List.getElem?_eq_getElem hm) ?_
      k_steps
      unfold Stop
      refine spec_use (hk _ _ (List.getElem?_eq_getElem hm)) ((a, listOf vs.toArray k) :: rest) B F2 K N2 T rfl (by omega) (by omega) ?perm hsepE ?_
      case perm =>
        intro p hp
        rw [← hrest]
        simp only [List.cons_append, List.mem_cons, List.mem_append] at hp ⊢
        rcases hp with hp | hp | hp | hp
        · exact .inr (.inl hp)
        · exact .inr (.inr (.inl hp))
        · exact .inl hp
        · exact .inr (.inr (.inr hp))
      intro r E' h' tk' hPk1 F' N' _
      refine pack fun G9 hG9 => ?_
      obtain ⟨rfl, t', rfl⟩ := hPk1
      refine hG9 ?_
      clear hG9
      replace N' := news_sub N' (l' := (a, listOf vs.toArray k) :: (f, ⟨oc9, od9, .func fd, sl9⟩) :: R) (by
        intro p hp
        rw [← hrest] at hp
        simp only [List.cons_append, List.mem_cons, List.mem_append] at hp ⊢
        rcases hp with hp | hp | hp | hp
        · exact .inr (.inr (.inl hp))
        · exact .inl hp
        · exact .inr (.inl hp)
        · exact .inr (.inr (.inr hp)))
      clear F2 N2
      k_steps
      · rename List.lt _ _ => hlt2
        have hp9 : (fun i => !decide (x.cps.toList < (ks i).cps.toList)) ((lo + hi) / 2) = false := by
          show (!decide (x.cps.toList < (ks ((lo + hi) / 2)).cps.toList)) = false
          rw [decide_eq_true hlt2]; rfl
        exact WhileStep.intro (n' := (lo + hi) / 2 - lo) (by assumption) (by assumption) (down_less hlt) ⟨lo, (lo + hi) / 2, _, _, rfl, by omega, by omega, (bisL_down hlt hp9).symm.trans h3, rfl, rfl, rfl, rfl, rfl, rfl⟩
      · rename ¬ (List.lt _ _) => hlt2
        have hp9 : (fun i => !decide (x.cps.toList < (ks i).cps.toList)) ((lo + hi) / 2) = true := by
          show (!decide (x.cps.toList < (ks ((lo + hi) / 2)).cps.toList)) = true
          rw [decide_eq_false hlt2]; rfl
        exact WhileStep.intro (n' := hi - ((lo + hi) / 2 + 1)) (by assumption) (by assumption) (up_less hlt) ⟨(lo + hi) / 2 + 1, hi, _, _, rfl, by omega, h2, (bisL_up hlt hp9).symm.trans h3, rfl, rfl, rfl, rfl, rfl, rfl⟩
    · dsimp only
      refine Back.intro ((a, listOf vs.toArray k) :: (f, ⟨oc9, od9, .func fd, sl9⟩) :: EK) (by assumption) (news_sub (by assumption) (by rw [← hrest]; exact fun p hp => hp)) ⟨rfl, t1, ?_⟩ (NewOk.same rfl)
      rw [← h3, bisL_stop (by omega)]
theorem all (d : D) : H d := by
  refine eps_all ne H ?_ d
  have h := core
  unfold mark w a f oc9 od9 fd sl9 x t t0 vs k ks EK mean mg mb dp un gd outer A₀ base g L h₁ rest s tk NBr.d at h
  exact h
end NBr
set_option maxRecDepth 100000 in
set_option maxHeartbeats 4000000 in
theorem bisect_right0 {w : World} {a f : Addr} {oc9 : Value} {od9 : Option Addr} {fd : FuncData} {sl9 : Array (Option Value)} {x : PySem.Str} {t t0 : Tok} {vs : List Value} {k : Nat} {ks : Nat → PySem.Str} {EK : List (Addr × Obj)} (hn2 : vs.length < 1000)
    (hk : ∀ i v, vs[i]? = some v → Spec w f [v] [] 20 200 ((f, ⟨oc9, od9, .func fd, sl9⟩) :: EK) (fun r E' => E' = (f, ⟨oc9, od9, .func fd, sl9⟩) :: EK ∧ ∃ t, r = .str (ks i) t)) (ha : ∀ q ∈ EK, a ≠ q.1) (haf : a ≠ f) : mark PySem.Challenge.rw_us0019_01 K01
   (Spec w 32 [.ref a, .str x t, .int 0 t0, .none] [(PySem.Str.ofString "key", .ref f)] 30 300 ((a, listOf vs.toArray k) :: (f, ⟨oc9, od9, .func fd, sl9⟩) :: EK) fun r E' => E' = (a, listOf vs.toArray k) :: (f, ⟨oc9, od9, .func fd, sl9⟩) :: EK ∧ ∃ t', r = .int (bisL (fun i => !decide (x.cps.toList < (ks i).cps.toList)) 0 vs.length : Nat) t') := by
  ((k_fill; unfold mark; (k_dflt (refine' spec_plain ?ho ?hcd ?hd1 ?hb ?hl ?hco ?hg ?hk ?hce ?_; (case ho => k_is); (case hcd => k_is); (case hd1 => decide); (case hb => intro _ KX; first | exact BindsTo.of_eq rfl | exact binds_K KX rfl (by k_is) rfl rfl rfl); (case hl => exact locs rfl); (case hco => exact rfl); (case hg => exact rfl); (case hk => exact rfl); (case hce => decide)); (try dsimp only [pa2, bd2, sc2]))))
  intro mean mg mb dp un gd outer A₀ base g L h₁ rest s tk
  exact NBr.all ⟨w, a, f, oc9, od9, fd, sl9, x, t, t0, vs, k, ks, EK, mean, mg, mb, dp, un, gd, outer, A₀, base, g, L, h₁, rest, s, tk⟩ hn2 hk ha haf
theorem bisect_right {w : World} {a f : Addr} {fo : Obj} {fd : FuncData} {x : PySem.Str} {t t0 : Tok} {vs : List Value} {k n : Nat} {ks : Nat → PySem.Str} {EK : List (Addr × Obj)} (hn : vs.length = n) (hn2 : n < 1000)
    (hk : ∀ i v, vs[i]? = some v → Spec w f [v] [] 20 200 ((f, fo) :: EK) (fun r E' => E' = (f, fo) :: EK ∧ ∃ t, r = .str (ks i) t)) (ha : ∀ q ∈ EK, a ≠ q.1) (haf : a ≠ f) (hfo : fo.data = .func fd) : mark PySem.Challenge.rw_us0019_01 K01
   (Spec w 32 [.ref a, .str x t, .int 0 t0, .none] [(PySem.Str.ofString "key", .ref f)] 30 300 ((a, listOf vs.toArray k) :: (f, fo) :: EK) fun r E' => E' = (a, listOf vs.toArray k) :: (f, fo) :: EK ∧ ∃ t', r = .int (bisL (fun i => !decide (x.cps.toList < (ks i).cps.toList)) 0 n : Nat) t') := by
  obtain ⟨oc9, od9, dt9, sl9⟩ := fo
  simp only at hfo
  subst hfo
  subst hn
  exact bisect_right0 hn2 hk ha haf
end
section
local macro_rules | `(tactic| walk_at $s:str) => if ["call ref", "call builtin:list.insert"].contains s.getString then `(tactic| (refine stopHere ?_)) else Lean.Macro.throwUnsupported
namespace NIn
noncomputable def G (w : World) (a : Addr) (f : Addr) (oc9 : Value) (od9 : Option Addr) (fd : FuncData) (sl9 : Array (Option Value)) (x : PySem.Str) (v : Value) (vs : List Value) (k : Nat) (ks : Nat → PySem.Str) (EK : List (Addr × Obj)) (mean : ExcName → Option Value) (mg : PySem.Str → Option Value) (mb : PySem.Str → Option Value) (dp : Nat) (un : Nat) (gd : Option (List Code)) (outer : List Env) (A₀ : Around) (base : Heap) (g : Heap) (L : Addr) (h₁ : Heap) (rest : List (Addr × Obj)) (s : Shared) (tk : Nat) : Prop :=
  (vs.length < 1000) → (Spec w f [v] [] 20 200 ((f, ⟨oc9, od9, .func fd, sl9⟩) :: EK) (fun r E' => E' = (f, ⟨oc9, od9, .func fd, sl9⟩) :: EK ∧ ∃ t, r = .str x t)) → (∀ i v, vs[i]? = some v → Spec w f [v] [] 20 200 ((f, ⟨oc9, od9, .func fd, sl9⟩) :: EK) (fun r E' => E' = (f, ⟨oc9, od9, .func fd, sl9⟩) :: EK ∧ ∃ t, r = .str (ks i) t)) → (∀ q ∈ EK, a ≠ q.1) → (a ≠ f) → PlainH w 23 (PySem.Str.ofString "insort_right") bd1 sc1 (.ref 22) [(PySem.Str.ofString "a", .ref a), (PySem.Str.ofString "x", v), (PySem.Str.ofString "lo", .int 0 189), (PySem.Str.ofString "hi", .none), (PySem.Str.ofString "key", .ref f)] 40 400 (((a, listOf vs.toArray k) :: (f, ⟨oc9, od9, .func fd, sl9⟩) :: EK)) (fun r E' => r = .none ∧ ∃ k', E' = (a, listOf (insAt vs (bisL (fun i => !decide (x.cps.toList < (ks i).cps.toList)) 0 vs.length) v).toArray k') :: (f, ⟨oc9, od9, .func fd, sl9⟩) :: EK) mean mg mb dp un gd outer A₀ base g L h₁ rest s tk
noncomputable abbrev D : Type := (World) × (Addr) × (Addr) × (Value) × (Option Addr) × (FuncData) × (Array (Option Value)) × (PySem.Str) × (Value) × (List Value) × (Nat) × (Nat → PySem.Str) × (List (Addr × Obj)) × (ExcName → Option Value) × (PySem.Str → Option Value) × (PySem.Str → Option Value) × (Nat) × (Nat) × (Option (List Code)) × (List Env) × (Around) × (Heap) × (Heap) × (Addr) × (Heap) × (List (Addr × Obj)) × (Shared) × (Nat)
theorem ne : Nonempty D := ⟨⟨w0, 0, 0, .none, none, default, #[], default, .none, [], 0, fun _ => default, [], fun _ => none, fun _ => none, fun _ => none, 0, 0, none, [], {}, default, default, 0, default, [], {}, 0⟩⟩
noncomputable abbrev H (d : D) : Prop := G d.1 d.2.1 d.2.2.1 d.2.2.2.1 d.2.2.2.2.1 d.2.2.2.2.2.1 d.2.2.2.2.2.2.1 d.2.2.2.2.2.2.2.1 d.2.2.2.2.2.2.2.2.1 d.2.2.2.2.2.2.2.2.2.1 d.2.2.2.2.2.2.2.2.2.2.1 d.2.2.2.2.2.2.2.2.2.2.2.1 d.2.2.2.2.2.2.2.2.2.2.2.2.1 d.2.2.2.2.2.2.2.2.2.2.2.2.2.1 d.2.2.2.2.2.2.2.2.2.2.2.2.2.2.1 d.2.2.2.2.2.2.2.2.2.2.2.2.2.2.2.1 d.2.2.2.2.2.2.2.2.2.2.2.2.2.2.2.2.1 d.2.2.2.2.2.2.2.2.2.2.2.2.2.2.2.2.2.1 d.2.2.2.2.2.2.2.2.2.2.2.2.2.2.2.2.2.2.1 d.2.2.2.2.2.2.2.2.2.2.2.2.2.2.2.2.2.2.2.1 d.2.2.2.2.2.2.2.2.2.2.2.2.2.2.2.2.2.2.2.2.1 d.2.2.2.2.2.2.2.2.2.2.2.2.2.2.2.2.2.2.2.2.2.1 d.2.2.2.2.2.2.2.2.2.2.2.2.2.2.2.2.2.2.2.2.2.2.1 d.2.2.2.2.2.2.2.2.2.2.2.2.2.2.2.2.2.2.2.2.2.2.2.1 d.2.2.2.2.2.2.2.2.2.2.2.2.2.2.2.2.2.2.2.2.2.2.2.2.1 d.2.2.2.2.2.2.2.2.2.2.2.2.2.2.2.2.2.2.2.2.2.2.2.2.2.1 d.2.2.2.2.2.2.2.2.2.2.2.2.2.2.2.2.2.2.2.2.2.2.2.2.2.2.1 d.2.2.2.2.2.2.2.2.2.2.2.2.2.2.2.2.2.2.2.2.2.2.2.2.2.2.2
@[irreducible] noncomputable def d : D := @Classical.epsilon D ne fun d => ¬ H d
@[irreducible] noncomputable def w : World := d.1
@[irreducible] noncomputable def a : Addr := d.2.1
@[irreducible] noncomputable def f : Addr := d.2.2.1
@[irreducible] noncomputable def oc9 : Value := d.2.2.2.1
@[irreducible] noncomputable def od9 : Option Addr := d.2.2.2.2.1
@[irreducible] noncomputable def fd : FuncData := d.2.2.2.2.2.1
@[irreducible] noncomputable def sl9 : Array (Option Value) := d.2.2.2.2.2.2.1
@[irreducible] noncomputable def x : PySem.Str := d.2.2.2.2.2.2.2.1
@[irreducible] noncomputable def v : Value := d.2.2.2.2.2.2.2.2.1
@[irreducible] noncomputable def vs : List Value := d.2.2.2.2.2.2.2.2.2.1
@[irreducible] noncomputable def k : Nat := d.2.2.2.2.2.2.2.2.2.2.1
@[irreducible] noncomputable def ks : Nat → PySem.Str := d.2.2.2.2.2.2.2.2.2.2.2.1
@[irreducible] noncomputable def EK : List (Addr × Obj) := d.2.2.2.2.2.2.2.2.2.2.2.2.1
@[irreducible] noncomputable def mean : ExcName → Option Value := d.2.2.2.2.2.2.2.2.2.2.2.2.2.1
@[irreducible] noncomputable def mg : PySem.Str → Option Value := d.2.2.2.2.2.2.2.2.2.2.2.2.2.2.1
@[irreducible] noncomputable def mb : PySem.Str → Option Value := d.2.2.2.2.2.2.2.2.2.2.2.2.2.2.2.1
@[irreducible] noncomputable def dp : Nat := d.2.2.2.2.2.2.2.2.2.2.2.2.2.2.2.2.1
@[irreducible] noncomputable def un : Nat := d.2.2.2.2.2.2.2.2.2.2.2.2.2.2.2.2.2.1
@[irreducible] noncomputable def gd : Option (List Code) := d.2.2.2.2.2.2.2.2.2.2.2.2.2.2.2.2.2.2.1
@[irreducible] noncomputable def outer : List Env := d.2.2.2.2.2.2.2.2.2.2.2.2.2.2.2.2.2.2.2.1
@[irreducible] noncomputable def A₀ : Around := d.2.2.2.2.2.2.2.2.2.2.2.2.2.2.2.2.2.2.2.2.1
@[irreducible] noncomputable def base : Heap := d.2.2.2.2.2.2.2.2.2.2.2.2.2.2.2.2.2.2.2.2.2.1
@[irreducible] noncomputable def g : Heap := d.2.2.2.2.2.2.2.2.2.2.2.2.2.2.2.2.2.2.2.2.2.2.1
@[irreducible] noncomputable def L : Addr := d.2.2.2.2.2.2.2.2.2.2.2.2.2.2.2.2.2.2.2.2.2.2.2.1
@[irreducible] noncomputable def h₁ : Heap := d.2.2.2.2.2.2.2.2.2.2.2.2.2.2.2.2.2.2.2.2.2.2.2.2.1
@[irreducible] noncomputable def rest : List (Addr × Obj) := d.2.2.2.2.2.2.2.2.2.2.2.2.2.2.2.2.2.2.2.2.2.2.2.2.2.1
@[irreducible] noncomputable def s : Shared := d.2.2.2.2.2.2.2.2.2.2.2.2.2.2.2.2.2.2.2.2.2.2.2.2.2.2.1
@[irreducible] noncomputable def tk : Nat := d.2.2.2.2.2.2.2.2.2.2.2.2.2.2.2.2.2.2.2.2.2.2.2.2.2.2.2
set_option maxRecDepth 100000 in
set_option maxHeartbeats 4000000 in
theorem core : mark PySem.Challenge.rw_us0019_01 K01 (G w a f oc9 od9 fd sl9 x v vs k ks EK mean mg mb dp un gd outer A₀ base g L h₁ rest s tk) := by
  k_fill
  unfold mark G PlainH
  (try dsimp only [pa1, bd1, sc1])
  intro hn2 hv hk ha haf
  intro B K T F N hR hE hsep hd hu
  simp only [List.cons_append] at N
  have haR : ∀ p ∈ EK ++ rest, p.1 ≠ a := by
    intro p hp
    rcases List.mem_append.mp hp with hp | hp
    · exact Ne.symm (ha p hp)
    · exact hsep p hp _ (.head _)
  have hsepE : ∀ p ∈ (a, listOf vs.toArray k) :: rest, ∀ q ∈ (f, ⟨oc9, od9, .func fd, sl9⟩) :: EK, p.1 ≠ q.1 := by
    intro p hp q hq
    rcases List.mem_cons.mp hp with rfl | hp
    · rcases List.mem_cons.mp hq with rfl | hq
      · exact haf
      · exact ha q hq
    · exact hsep p hp q (.tail _ hq)
  generalize hrest : EK ++ rest = R at *
  have C160 := codeHd160 K
  k_steps
  unfold Stop
  rename Fr _ _ _ _ => F2
  rename News _ _ _ _ => N2
  refine spec_use hv ((a, listOf vs.toArray k) :: rest) B F2 K N2 T rfl (by omega) (by omega) ?perm hsepE ?_
  case perm =>
    intro p hp
    rw [← hrest]
    simp only [List.cons_append, List.mem_cons, List.mem_append] at hp ⊢
    rcases hp with hp | hp | hp | hp
    · exact .inr (.inl hp)
    · exact .inr (.inr (.inl hp))
    · exact .inl hp
    · exact .inr (.inr (.inr hp))
  rintro r E' h' tk' ⟨rfl, t', rfl⟩ F' N' _
  replace N' := news_sub N' (l' := (a, listOf vs.toArray k) :: (f, ⟨oc9, od9, .func fd, sl9⟩) :: R) (by
    intro p hp
    rw [← hrest] at hp
    simp only [List.cons_append, List.mem_cons, List.mem_append] at hp ⊢
    rcases hp with hp | hp | hp | hp
    · exact .inr (.inr (.inl hp))
    · exact .inl hp
    · exact .inr (.inl hp)
    · exact .inr (.inr (.inr hp)))
  clear F2 N2
  k_steps
  unfold Stop
  rename Fr _ _ _ _ => F2
  rename News _ _ _ _ => N2
  refine spec_use (bisect_right (w := w) rfl hn2 hk ha haf rfl) rest B F2 K N2 T rfl (by omega) (by omega) (by rw [← hrest]; exact fun p hp => hp) hsep ?_
  rintro r E' h' tk' ⟨rfl, t', rfl⟩ F' N' _
  simp only [List.cons_append] at N'
  rw [hrest] at N'
  clear F2 N2
  k_steps
  unfold Stop
  rename Fr _ _ _ _ => F2
  rename News _ _ _ _ => N2
  refine ins_led F2 N2 ?hR bisL_le (by omega) ?_
  case hR =>
    intro p hp
    rcases List.mem_cons.mp hp with rfl | hp
    · exact Ne.symm haf
    · exact haR p hp
  intro h' F' N'
  clear F2 N2
  k_steps
  dsimp only
  exact Back.intro (_ :: (f, ⟨oc9, od9, .func fd, sl9⟩) :: EK) (by assumption) (news_sub (by assumption) (by rw [← hrest]; exact fun p hp => hp)) ⟨rfl, _, rfl⟩ (NewOk.same rfl)
theorem all (d : D) : H d := by
  refine eps_all ne H ?_ d
  have h := core
  unfold mark w a f oc9 od9 fd sl9 x v vs k ks EK mean mg mb dp un gd outer A₀ base g L h₁ rest s tk NIn.d at h
  exact h
end NIn
set_option maxRecDepth 100000 in
set_option maxHeartbeats 4000000 in
theorem insort_right0 {w : World} {a f : Addr} {oc9 : Value} {od9 : Option Addr} {fd : FuncData} {sl9 : Array (Option Value)} {x : PySem.Str} {v : Value} {vs : List Value} {k : Nat} {ks : Nat → PySem.Str} {EK : List (Addr × Obj)} (hn2 : vs.length < 1000)
    (hv : Spec w f [v] [] 20 200 ((f, ⟨oc9, od9, .func fd, sl9⟩) :: EK) (fun r E' => E' = (f, ⟨oc9, od9, .func fd, sl9⟩) :: EK ∧ ∃ t, r = .str x t))
    (hk : ∀ i v, vs[i]? = some v → Spec w f [v] [] 20 200 ((f, ⟨oc9, od9, .func fd, sl9⟩) :: EK) (fun r E' => E' = (f, ⟨oc9, od9, .func fd, sl9⟩) :: EK ∧ ∃ t, r = .str (ks i) t)) (ha : ∀ q ∈ EK, a ≠ q.1) (haf : a ≠ f) : mark PySem.Challenge.rw_us0019_01 K01
   (Spec w 23 [.ref a, v] [(PySem.Str.ofString "key", .ref f)] 40 400 ((a, listOf vs.toArray k) :: (f, ⟨oc9, od9, .func fd, sl9⟩) :: EK) fun r E' => r = .none ∧ ∃ k', E' = (a, listOf (insAt vs (bisL (fun i => !decide (x.cps.toList < (ks i).cps.toList)) 0 vs.length) v).toArray k') :: (f, ⟨oc9, od9, .func fd, sl9⟩) :: EK) := by
  ((k_fill; unfold mark; (k_dflt (refine' spec_plain ?ho ?hcd ?hd1 ?hb ?hl ?hco ?hg ?hk ?hce ?_; (case ho => k_is); (case hcd => k_is); (case hd1 => decide); (case hb => intro _ KX; first | exact BindsTo.of_eq rfl | exact binds_K KX rfl (by k_is) rfl rfl rfl); (case hl => exact locs rfl); (case hco => exact rfl); (case hg => exact rfl); (case hk => exact rfl); (case hce => decide)); (try dsimp only [pa1, bd1, sc1]))))
  intro mean mg mb dp un gd outer A₀ base g L h₁ rest s tk
  exact NIn.all ⟨w, a, f, oc9, od9, fd, sl9, x, v, vs, k, ks, EK, mean, mg, mb, dp, un, gd, outer, A₀, base, g, L, h₁, rest, s, tk⟩ hn2 hv hk ha haf
theorem insort_right {w : World} {a f : Addr} {fo : Obj} {fd : FuncData} {x : PySem.Str} {v : Value} {vs : List Value} {k n : Nat} {ks : Nat → PySem.Str} {EK : List (Addr × Obj)} (hn : vs.length = n) (hn2 : n < 1000)
    (hv : Spec w f [v] [] 20 200 ((f, fo) :: EK) (fun r E' => E' = (f, fo) :: EK ∧ ∃ t, r = .str x t))
    (hk : ∀ i v, vs[i]? = some v → Spec w f [v] [] 20 200 ((f, fo) :: EK) (fun r E' => E' = (f, fo) :: EK ∧ ∃ t, r = .str (ks i) t)) (ha : ∀ q ∈ EK, a ≠ q.1) (haf : a ≠ f) (hfo : fo.data = .func fd) : mark PySem.Challenge.rw_us0019_01 K01
   (Spec w 23 [.ref a, v] [(PySem.Str.ofString "key", .ref f)] 40 400 ((a, listOf vs.toArray k) :: (f, fo) :: EK) fun r E' => r = .none ∧ ∃ k', E' = (a, listOf (insAt vs (bisL (fun i => !decide (x.cps.toList < (ks i).cps.toList)) 0 n) v).toArray k') :: (f, fo) :: EK) := by
  obtain ⟨oc9, od9, dt9, sl9⟩ := fo
  simp only at hfo
  subst hfo
  subst hn
  exact insort_right0 hn2 hv hk ha haf
end
section
theorem slice_from (l : List Nat) (i : Nat) (hi : i ≤ l.length) : Txt.slice (strOf l) (some (i : Int)) none = strOf (l.drop i) := by
  rw [slice_from_eq (b := l.length) (by omega) (by rw [strOf_len]; omega) (by rw [strOf_len])]
  show PySem.Str.mk _ = PySem.Str.mk _
  congr 1
  have h : ((l.length : Int) - (i : Int)).toNat = l.length - i := by omega
  simp [strOf, h]
  exact List.take_of_length_le (by simp)
set_option maxRecDepth 100000 in
set_option maxHeartbeats 4000000 in
theorem law_end {w : World} {nm : PySem.Str} {pa : Arguments} {bo : List Stmt} {sc : Scope} {qual : PySem.Str} {doc pm ctv : Value} {f cd c : Addr} {oc ocell : Obj} {vs : Array Value} {tq tr : Tok} {row : List Nat} (i : Nat) (t : Tok)
    (hn : nestAt (bodyAt P1 19) 0 = some (nm, pa, bo, sc)) (hoc : oc.data = .fields vs) (hov : vs[1]? = some (.str qual tq)) (hcell : ocell.data = .cell (some (.str (strOf row) tr))) (hlen : row.length < 1000) (hi : i ≤ row.length)
    (hord : @LT.lt Nat _ c cd ∧ @LT.lt Nat _ cd f) : mark PySem.Challenge.rw_us0019_01 K01
   (Spec w f [.int (i : Int) t] [] 20 200 [(f, fnMade nm qual pa bo sc [(PySem.Str.ofString "row", c)] doc pm cd ctv), (cd, oc), (c, ocell)]
     fun r E' => E' = [(f, fnMade nm qual pa bo sc [(PySem.Str.ofString "row", c)] doc pm cd ctv), (cd, oc), (c, ocell)] ∧ ∃ t', r = .str (strOf (row.drop i)) t') := by
  k_fill
  unfold mark
  conv at hn => lhs; whnf
  simp only [Option.some.injEq, Prod.mk.injEq] at hn
  obtain ⟨rfl, rfl, rfl, rfl⟩ := hn
  k_dflt (refine' spec_clos ?h1 ?h2 hoc hov ?hd1 ?hb ?hl ?hco ?hg ?hk ?hce ?_; (case h1 => exact .head _); (case h2 => exact .tail _ (.head _)); (case hd1 => decide); (case hb => exact fun _ => BindsTo.of_eq rfl); (case hl => exact locs rfl); (case hco => exact rfl); (case hg => exact rfl); (case hk => exact rfl); (case hce => decide))
  intro mean mg mb dp un gd outer A₀ base g L h₁ rest s tk B X T F N hR hE hsep hd hu
  simp only [List.cons_append, List.nil_append] at N
  obtain ⟨ho2, ho3⟩ := hord
  have C160 := codeHd160 X
  have hsl : (strOf row).length < 1000 := by rw [strOf_len]; exact hlen
  k_steps
  dsimp only
  refine Back.intro [_, _, _] (by assumption) (news_sub (by assumption) (by (((try simp only [List.cons_append, List.nil_append]); refine (?_ : HintTo _ _ _ _) (by repeat' (with_reducible (first | exact pkA | apply pkB | apply pkC | exact pkD | apply pkE | exact pkF | apply pkG))); exact fun _ => sub_pick rfl)))) ⟨rfl, _, by rw [slice_from _ _ hi]⟩ (NewOk.same rfl)
end
section
theorem item_of (l : List Nat) (i c : Nat) (h : l[i]? = some c) : Txt.item (strOf l) (i : Int) = one c := by
  have hi : i < l.length := (List.getElem?_eq_some_iff.mp h).1
  rw [item_meets ⟨by omega, by rw [strOf_len]; omega⟩]
  show PySem.Str.mk _ = PySem.Str.mk _
  congr 1
  simp [strOf, Array.getD, List.getElem?_eq_some_iff.mp h]
  have := (List.getElem?_eq_some_iff.mp h)
  obtain ⟨h1, h2⟩ := this
  simp [h1, h2]
section
variable {prog : Program} {w : World} {A : Around} {E : Value → Shared → Prop} {s : Shared}
theorem len_strOf {l : List Nat} {t : Tok} {Q : Value → Shared → Prop} (hz : l.length < 1000000) (h : ∀ t tk, Q (.int (l.length : Int) t) { s with toks := tk }) : wpAny (model prog w) A (call (.builtin "len") [.str (strOf l) t]) Q E s :=
  PyProof.Rows.len_str (by rw [strOf_len]; omega) (by rw [strOf_len]; exact h _ _)
theorem item_strOf {value slice : Expr} {l : List Nat} {i c : Nat} {z : Int} {t u : Tok} {Q : Value → Shared → Prop} (hz : l.length < 1000000) (e : z = (i : Int)) (hi : l[i]? = some c) (h : ∀ t tk, Q (.str (one c) t) { s with toks := tk })
    (hs : subscripted slice false (.str (strOf l) t) (.int z u) = operate [.str (strOf l) t, .int z u] (getItem (.str (strOf l) t) (.int z u)) := by with_unfolding_all rfl)
    (ht : ∀ r, letTemporaryGo value (.str (strOf l) t) r = pure () := by intro _; with_unfolding_all rfl) :
    wpAny (model prog w) A (subscriptTail value slice (.str (strOf l) t) (.int z u)) Q E s := by
  subst e
  have hlt : i < l.length := (List.getElem?_eq_some_iff.mp hi).1
  exact KXi.item (n := l.length) (strOf_len l) (by omega) (by omega) (by omega) (fun _ => by rw [item_of l i c hi]; exact h _ _) hs ht
end
end
section
local macro_rules | `(tactic| walk_at "execs cons") => `(tactic| k_fold)
inductive Tups : List (Addr × Obj) → List Value → List (Nat × Nat) → Prop
  | nil : Tups [] [] []
  | cons {a : Addr} {x y : Nat} {tx ty : Tok} {tl : List (Addr × Obj)} {vs : List Value} {ps : List (Nat × Nat)} (h : Tups tl vs ps) : Tups ((a, { cls := .type "tuple", data := .seq #[.int (x : Int) tx, .int (y : Int) ty] }) :: tl) (.ref a :: vs) ((x, y) :: ps)
theorem Tups.snoc {a : Addr} {x y : Nat} {tx ty : Tok} : ∀ {tl : List (Addr × Obj)} {vs : List Value} {ps : List (Nat × Nat)}, Tups tl vs ps → Tups (tl ++ [(a, { cls := .type "tuple", data := .seq #[.int (x : Int) tx, .int (y : Int) ty] })]) (vs ++ [.ref a]) (ps ++ [(x, y)])
  | _, _, _, .nil => .cons .nil
  | _, _, _, .cons h => .cons (Tups.snoc h)
theorem Tups.length : ∀ {tl : List (Addr × Obj)} {vs : List Value} {ps : List (Nat × Nat)}, Tups tl vs ps → vs.length = ps.length
  | _, _, _, .nil => rfl
  | _, _, _, .cons h => by rw [List.length_cons, List.length_cons, Tups.length h]
theorem ints_take : ∀ {vs : List Value} {ns : List Int} (c : Nat), IntsAre vs ns → IntsAre (vs.take c) (ns.take c)
  | _, _, 0, _ => by simpa using IntsAre.nil
  | _, _, _ + 1, .nil => by simpa using IntsAre.nil
  | _, _, c + 1, .cons n t h => by simpa using IntsAre.cons n t (ints_take c h)
theorem ints_drop : ∀ {vs : List Value} {ns : List Int} (c : Nat), IntsAre vs ns → IntsAre (vs.drop c) (ns.drop c)
  | _, _, 0, h => by simpa using h
  | _, _, _ + 1, .nil => by simpa using IntsAre.nil
  | _, _, c + 1, .cons n t h => by simpa using ints_drop c h
theorem ints_app : ∀ {vs ws : List Value} {ns ms : List Int}, IntsAre vs ns → IntsAre ws ms → IntsAre (vs ++ ws) (ns ++ ms)
  | _, _, _, _, .nil, h => h
  | _, _, _, _, .cons n t h, h' => .cons n t (ints_app h h')
theorem ints_ins {vs : List Value} {o : List Nat} {c z : Nat} {t : Tok} (h : IntsAre vs (o.map Int.ofNat)) : IntsAre (insAt vs c (.int (z : Int) t)) ((o.take c ++ z :: o.drop c).map Int.ofNat) := by
  rw [List.map_append, List.map_cons, List.map_take, List.map_drop]
  exact ints_app (ints_take c h) (.cons _ _ (ints_drop c h))
theorem range_sizeAB {a b : Int} (h0 : a ≤ b) : Builtin.Range.rangeSize a b 1 = b - a := by
  unfold Builtin.Range.rangeSize
  rw [if_pos (by decide)]
  split
  · rw [Int.ediv_one]; omega
  · omega
theorem range_smallAB {a b : Int} (h0 : 0 ≤ a) (h1 : a ≤ b) (h2 : b < 1000000) : Builtin.Range.small a b 1 = true := by
  unfold Builtin.Range.small
  rw [range_sizeAB h1, if_pos (by decide)]
  unfold Builtin.Range.rangeFitsLong
  simp only [Bool.and_eq_true, Bool.or_eq_true, decide_eq_true_eq, beq_iff_eq]
  have f : ∀ {x : Int}, 0 ≤ x → x < 1000000 → -2 ^ 63 ≤ x ∧ x < 2 ^ 63 := fun h h' => ⟨Int.le_trans (by decide) h, Int.lt_trans h' (by decide)⟩
  exact ⟨⟨⟨⟨f h0 (Int.lt_of_le_of_lt h1 h2), f (Int.le_trans h0 h1) h2⟩, by decide⟩, f (Int.sub_nonneg_of_le h1) (Int.lt_of_le_of_lt (Int.sub_le_self b h0) h2)⟩, .inr (by rw [show (1 : Int) - 1 = 0 from rfl, Int.add_zero]; exact f (Int.le_trans h0 h1) h2)⟩
theorem range_size1 {b : Int} (h0 : 0 ≤ b) : Builtin.Range.rangeSize 0 b 1 = b := (range_sizeAB h0).trans (Int.sub_zero b)
theorem range_small {b : Int} (h0 : 0 ≤ b) (h1 : b < 1000000) : Builtin.Range.small 0 b 1 = true := range_smallAB (Int.le_refl 0) h0 h1
theorem intEq {x y : Int} {t : Tok} (h : x = y) : some (Value.int x t) = some (Value.int y t) := by rw [h]
theorem ints_at {ov : List Value} {o : List Nat} (hI : IntsAre ov (o.map Int.ofNat)) {i : Nat} {v : Value} (h : ov[i]? = some v) : ∃ t, v = .int ((o.getD i 0 : Nat) : Int) t ∧ o.getD i 0 ∈ o := by
  have hl : i < ov.length := (List.getElem?_eq_some_iff.mp h).1
  have hl2 : i < o.length := by have := hI.length; rw [List.length_map] at this; omega
  have e : o.getD i 0 = o[i] := by rw [List.getD_eq_getElem?_getD, List.getElem?_eq_getElem hl2]; rfl
  obtain ⟨t, ht⟩ := hI.get i (Int.ofNat o[i]) (by rw [List.getElem?_map, List.getElem?_eq_getElem hl2]; rfl)
  rw [ht] at h
  exact ⟨t, by rw [e]; exact (Option.some.inj h).symm, by rw [e]; exact List.getElem_mem hl2⟩
theorem codeHd191 {w : World} {h : Heap} (X : (K01 w.params).In h) : CodeHd h 191 187 := by
  have e : (K01 w.params).lookup 191 = some _ := rfl
  exact ⟨_, _, _, _, _, _, _, _, _, X _ _ e, rfl, rfl, rfl, rfl, rfl, rfl, rfl, rfl, by decide⟩
structure PN (lp la f : Addr) (q : Nat) (tq : Tok) (m : PySem.Str → Option Value) : Prop where
  place : m (PySem.Str.ofString "place") = some (.int (q : Int) tq)
  pieces : m (PySem.Str.ofString "pieces") = some (.ref lp)
  order : m (PySem.Str.ofString "order") = some (.ref la)
  lend : m (PySem.Str.ofString "_law_end") = some (.ref f)
structure PS (ts tb' : Tok) (sb : Nat × Nat) (m : PySem.Str → Option Value) : Prop where
  size : m (PySem.Str.ofString "size") = some (.int (sb.1 : Int) ts)
  back : m (PySem.Str.ofString "back") = some (.int (sb.2 : Int) tb')
structure PO (tc tx' : Tok) (c x : Nat) (m : PySem.Str → Option Value) : Prop where
  same : m (PySem.Str.ofString "same") = some (.int (c : Int) tc)
  other : m (PySem.Str.ofString "other") = some (.int (x : Int) tx')
local macro_rules | `(tactic| walk_at $s:str) => if ["call ref", "subscriptTail Name Slice ref ref"].contains s.getString then `(tactic| (refine stopHere ?_)) else Lean.Macro.throwUnsupported
local macro_rules | `(tactic| walk_at "call builtin:len") => `(tactic| (refine len_strOf (by omega) ?_; intro _ _))
local macro_rules | `(tactic| walk_at "subscriptTail") => `(tactic| (k_here; (with_reducible show wpAny _ _ (subscriptTail _ _ (Value.str _ _) (Value.int _ _)) _ _ _); refine stopHere ?_))
local macro_rules | `(tactic| walk_at "pyIter ref") => `(tactic| (refine stopHere ?_))
local macro_rules | `(tactic| walk_at "exec For") => `(tactic| (refine For_it ?_))
local macro_rules | `(tactic| walk_at $s:str) => if ["exec For Name Call cons nil", "exec While", "exec While Compare cons nil"].contains s.getString then `(tactic| (refine stopHere ?_)) else Lean.Macro.throwUnsupported
namespace NPie
noncomputable def G (w : World) (row : List Nat) (t : Tok) (mean : ExcName → Option Value) (mg : PySem.Str → Option Value) (mb : PySem.Str → Option Value) (dp : Nat) (un : Nat) (gd : Option (List Code)) (outer : List Env) (A₀ : Around) (base : Heap) (g : Heap) (L : Addr) (h₁ : Heap) (rest : List (Addr × Obj)) (s : Shared) (tk : Nat) : Prop :=
  (row.length < 100) → CellsH w 192 (PySem.Str.ofString "_law_pieces") bd19 sc19 (.ref 191) [(PySem.Str.ofString "row", .str (strOf row) t)] 60 600 ([(187, tabObj #[])]) (fun r E' => ∃ l tb tl pv ps k, r = .ref l ∧ Pieces row ps row.length ∧ Tups tl pv ps ∧ (∀ p ∈ tl, @LT.lt Nat _ l p.1) ∧ E' = (l, listOf pv.toArray k) :: (187, tabObj tb) :: tl) mean mg mb dp un gd outer A₀ base g L h₁ rest s tk
noncomputable abbrev D : Type := (World) × (List Nat) × (Tok) × (ExcName → Option Value) × (PySem.Str → Option Value) × (PySem.Str → Option Value) × (Nat) × (Nat) × (Option (List Code)) × (List Env) × (Around) × (Heap) × (Heap) × (Addr) × (Heap) × (List (Addr × Obj)) × (Shared) × (Nat)
theorem ne : Nonempty D := ⟨⟨w0, [], 0, fun _ => none, fun _ => none, fun _ => none, 0, 0, none, [], {}, default, default, 0, default, [], {}, 0⟩⟩
noncomputable abbrev H (d : D) : Prop := G d.1 d.2.1 d.2.2.1 d.2.2.2.1 d.2.2.2.2.1 d.2.2.2.2.2.1 d.2.2.2.2.2.2.1 d.2.2.2.2.2.2.2.1 d.2.2.2.2.2.2.2.2.1 d.2.2.2.2.2.2.2.2.2.1 d.2.2.2.2.2.2.2.2.2.2.1 d.2.2.2.2.2.2.2.2.2.2.2.1 d.2.2.2.2.2.2.2.2.2.2.2.2.1 d.2.2.2.2.2.2.2.2.2.2.2.2.2.1 d.2.2.2.2.2.2.2.2.2.2.2.2.2.2.1 d.2.2.2.2.2.2.2.2.2.2.2.2.2.2.2.1 d.2.2.2.2.2.2.2.2.2.2.2.2.2.2.2.2.1 d.2.2.2.2.2.2.2.2.2.2.2.2.2.2.2.2.2
@[irreducible] noncomputable def d : D := @Classical.epsilon D ne fun d => ¬ H d
@[irreducible] noncomputable def w : World := d.1
@[irreducible] noncomputable def row : List Nat := d.2.1
@[irreducible] noncomputable def t : Tok := d.2.2.1
@[irreducible] noncomputable def mean : ExcName → Option Value := d.2.2.2.1
@[irreducible] noncomputable def mg : PySem.Str → Option Value := d.2.2.2.2.1
@[irreducible] noncomputable def mb : PySem.Str → Option Value := d.2.2.2.2.2.1
@[irreducible] noncomputable def dp : Nat := d.2.2.2.2.2.2.1
@[irreducible] noncomputable def un : Nat := d.2.2.2.2.2.2.2.1
@[irreducible] noncomputable def gd : Option (List Code) := d.2.2.2.2.2.2.2.2.1
@[irreducible] noncomputable def outer : List Env := d.2.2.2.2.2.2.2.2.2.1
@[irreducible] noncomputable def A₀ : Around := d.2.2.2.2.2.2.2.2.2.2.1
@[irreducible] noncomputable def base : Heap := d.2.2.2.2.2.2.2.2.2.2.2.1
@[irreducible] noncomputable def g : Heap := d.2.2.2.2.2.2.2.2.2.2.2.2.1
@[irreducible] noncomputable def L : Addr := d.2.2.2.2.2.2.2.2.2.2.2.2.2.1
@[irreducible] noncomputable def h₁ : Heap := d.2.2.2.2.2.2.2.2.2.2.2.2.2.2.1
@[irreducible] noncomputable def rest : List (Addr × Obj) := d.2.2.2.2.2.2.2.2.2.2.2.2.2.2.2.1
@[irreducible] noncomputable def s : Shared := d.2.2.2.2.2.2.2.2.2.2.2.2.2.2.2.2.1
@[irreducible] noncomputable def tk : Nat := d.2.2.2.2.2.2.2.2.2.2.2.2.2.2.2.2.2
inductive I1 (lp la f cd : Addr) (fo oc ocell : Obj) (tb : Array Value) (j : Nat) (m₁ : PySem.Str → Option Value) (news₁ : List (Addr × Obj)) : Prop
  | mk (o : List Nat) (ps : List (Nat × Nat)) (q : Nat) (ov pv : List Value) (tl : List (Addr × Obj)) (ko kp : Nat) (tq : Tok)
    (h1 : j = row.length - q)
    (h2 : Srt row o q)
    (h3 : Pieces row ps q)
    (h4 : IntsAre ov (o.map Int.ofNat))
    (h5 : Tups tl pv ps)
    (h6 : (∀ p ∈ tl, @LT.lt Nat _ lp p.1))
    (h7 : PN lp la f q tq m₁)
    (h8 : news₁ = (lp, listOf pv.toArray kp) :: (la, listOf ov.toArray ko) :: (f, fo) :: (cd, oc) :: (L + 1, ocell) :: (187, tabObj tb) :: (tl ++ rest))
    : I1 lp la f cd fo oc ocell tb j m₁ news₁
inductive I2 (lp la f cd : Addr) (fo oc ocell : Obj) (tb : Array Value) (D1 : Addr) (q ko kp : Nat) (tq : Tok) (o : List Nat) (ov pv : List Value) (R1 : List (Addr × Obj)) (i : Nat) (m : PySem.Str → Option Value) (nl : List (Addr × Obj)) : Prop
  | mk (ts tb' : Tok) (sb : Nat × Nat)
    (h1 : sb = bestOf row q ((nearO row o q).take i))
    (h2 : PS ts tb' sb m)
    (h3 : PN lp la f q tq m)
    (h4 : nl = (D1, listOf ((ov.drop (cutAt row o q - 1)).take (cutAt row o q + 1 - (cutAt row o q - 1))).toArray 0) :: (lp, listOf pv.toArray kp) :: (la, listOf ov.toArray ko) :: (f, fo) :: (cd, oc) :: (L + 1, ocell) :: (187, tabObj tb) :: R1)
    : I2 lp la f cd fo oc ocell tb D1 q ko kp tq o ov pv R1 i m nl
inductive I3 (lp la f cd : Addr) (fo oc ocell : Obj) (tb : Array Value) (D D1 : Addr) (o9 : Obj) (q x ko kp : Nat) (tq ts tb' : Tok) (sb : Nat × Nat) (o : List Nat) (ov pv : List Value) (R1 : List (Addr × Obj)) (j : Nat) (m₁ : PySem.Str → Option Value) (news₁ : List (Addr × Obj)) : Prop
  | mk (c : Nat) (tc tx' : Tok)
    (h1 : j = row.length - c)
    (h2 : c ≤ lcp (row.drop x) (row.drop q))
    (h3 : PO tc tx' c x m₁)
    (h4 : PS ts tb' sb m₁)
    (h5 : PN lp la f q tq m₁)
    (h6 : news₁ = (D, o9) :: (D1, listOf ((ov.drop (cutAt row o q - 1)).take (cutAt row o q + 1 - (cutAt row o q - 1))).toArray 0) :: (lp, listOf pv.toArray kp) :: (la, listOf ov.toArray ko) :: (f, fo) :: (cd, oc) :: (L + 1, ocell) :: (187, tabObj tb) :: R1)
    : I3 lp la f cd fo oc ocell tb D D1 o9 q x ko kp tq ts tb' sb o ov pv R1 j m₁ news₁
inductive I4 (lp la f cd : Addr) (fo oc ocell : Obj) (tb : Array Value) (D9 : Addr) (q kp : Nat) (ts tb' : Tok) (sb : Nat × Nat) (pv : List Value) (R1 : List (Addr × Obj)) (i : Nat) (m : PySem.Str → Option Value) (nl : List (Addr × Obj)) : Prop
  | mk (o' : List Nat) (ov' : List Value) (ko' : Nat) (tq' : Tok)
    (h1 : Srt row o' (q + i))
    (h2 : IntsAre ov' (o'.map Int.ofNat))
    (h3 : PN lp la f (q + i) tq' m)
    (h4 : nl = (D9, ({ cls := .type "tuple", data := .seq #[.int (sb.1 : Int) ts, .int (sb.2 : Int) tb'] } : Obj)) :: (lp, listOf (pv ++ [Value.ref D9]).toArray (kp + 1)) :: (la, listOf ov'.toArray ko') :: (f, fo) :: (cd, oc) :: (L + 1, ocell) :: (187, tabObj tb) :: R1)
    : I4 lp la f cd fo oc ocell tb D9 q kp ts tb' sb pv R1 i m nl
set_option maxRecDepth 100000 in
set_option maxHeartbeats 4000000 in
theorem core : mark PySem.Challenge.rw_us0019_01 K01 (G w row t mean mg mb dp un gd outer A₀ base g L h₁ rest s tk) := by
  k_fill
  unfold mark G CellsH
  (try dsimp only [pa19, bd19, sc19])
  intro hlen
  intro cells B K T F N Y hR hE hsep hd hu
  k_cells Y
  rename_i ocell docell
  have hcl : ocell.data = .cell (some (.str (strOf row) t)) := docell
  simp only [List.cons_append, List.nil_append] at N
  have C191 := codeHd191 K
  have hs187 : ∀ p ∈ rest, p.1 ≠ 187 := fun p hp => hsep p hp _ (.head _)
  have hL := natLt (hE _ (.head _))
  k_steps
  unfold Stop
  rename_i f cd oc vs tq ct dc h6 tk1 d1 d2 l1 l2 h5 la h4 l3 h3 tk2 lp h2 l4 h1 h0 F9 N9
  obtain ⟨fo, fd, tb, N8, hkey, hfo⟩ : ∃ (fo : Obj) (fd : FuncData) (tb : Array Value), News g L h0 ((lp, listOf #[] 0) :: (la, listOf #[] 0) :: (f, fo) :: (cd, oc) :: (L + 1, ocell) :: (187, tabObj tb) :: rest) ∧
      (∀ (i : Nat) t', i ≤ row.length → Spec w f [.int i t'] [] 20 200 [(f, fo), (cd, oc), (L + 1, ocell)] (fun r E' => E' = [(f, fo), (cd, oc), (L + 1, ocell)] ∧ ∃ t', r = .str (strOf (row.drop i)) t')) ∧ fo.data = .func fd :=
    ⟨_, _, _, N9, fun i t' hi => law_end (w := w) (f := f) (cd := cd) (c := L + 1) (oc := oc) (ocell := ocell) (vs := vs) (tq := tq) (tr := t) (row := row) (doc := dc) (ctv := ct) i t' rfl d1 d2 hcl (by omega) hi ⟨l1.1, l2⟩, rfl⟩
  clear N9 d1 d2
  refine While_inv (I1 lp la f cd fo oc ocell tb) (n₀ := row.length) F9 N8 ?start ?turn
  case start => exact ⟨[], [], 0, [], [], [], 0, 0, _, rfl, Srt.nil row, .nil, .nil, .nil, by simp, ⟨rfl, rfl, rfl, rfl⟩, rfl⟩
  case turn =>
    rintro j m₁ news₁ h₁ tk₁ F₁ N₁ hI9
    try k_fold
    refine pack fun G9 hG9 => ?_
    obtain ⟨o, ps, q, ov, pv, tl, ko, kp, tq, rfl, hS, hP, hI, hT, hTl, ⟨j1, j2, j3, j4⟩, rfl⟩ := hI9
    refine hG9 ?_
    clear hG9
    clear F9 N8
    rw [nm1 j4, under (nm1 j3), under (under (nm1 j2)), under (under (under (nm1 j1)))] at F₁
    have hql := hP.le
    have hsl : (strOf row).length < 1000 := by rw [strOf_len]; omega
    have hne : ∀ a, @LE.le Nat _ L a → @LE.le Nat _ a lp → ∀ p ∈ tl ++ rest, p.1 ≠ a := fun a h1 h2 p hp => by
      rcases List.mem_append.mp hp with hp | hp
      · exact Nat.ne_of_gt (Nat.lt_of_le_of_lt h2 (hTl p hp))
      · exact Nat.ne_of_lt (Nat.lt_of_lt_of_le (hR p hp) h1)
    have n1 := hne lp (by omega) (by omega)
    have n2 := hne la (by omega) (by omega)
    have n3 := hne f (by omega) (by omega)
    have n4 := hne cd (by omega) (by omega)
    have n5 : ∀ p ∈ tl ++ rest, p.1 ≠ L + 1 := hne (L + 1) (Nat.le_succ _) (by omega)
    have n6 : ∀ p ∈ tl ++ rest, p.1 ≠ 187 := fun p hp => by
      rcases List.mem_append.mp hp with hp | hp
      · have h9 := hTl p hp
        refine @Nat.ne_of_gt _ _ (show @LT.lt Nat _ 187 p.1 from ?_)
        omega
      · exact hs187 p hp
    generalize hR1 : tl ++ rest = R1 at *
    have hlo : ov.length = o.length := by rw [hI.length, List.length_map]
    have hlq := hS.2.2
    have hpv : pv.length < 1000 := by have h9 := hT.length; have h8 := hP.len; omega
    have hkk : ∀ i v, ov[i]? = some v → Spec w f [v] [] 20 200 ((f, fo) :: [(cd, oc), (L + 1, ocell)]) (fun r E' => E' = (f, fo) :: [(cd, oc), (L + 1, ocell)] ∧ ∃ t, r = .str (strOf (row.drop (o.getD i 0))) t) := fun i v hv => by
      refine pack fun G9 hG9 => ?_
      obtain ⟨t9, rfl, hm⟩ := ints_at hI hv
      refine hG9 ?_
      clear hG9
      exact hkey _ _ (by have := (hS.2.1 _).mp hm; omega)
    k_steps
    · unfold Stop
      rename Fr _ _ _ _ => F2
      rename News _ _ _ _ => N2
      rw [slice_from _ _ hql]
      refine spec_use (bisect_left (w := w) (a := la) (f := f) (vs := ov) (k := ko) (ks := fun i => strOf (row.drop (o.getD i 0))) (EK := [(cd, oc), (L + 1, ocell)]) hlo (by omega) hkk ?ha ?haf hfo) ((lp, listOf pv.toArray kp) :: (187, tabObj tb) :: R1) B F2 K N2 T rfl (by omega) (by omega) (by (((try simp only [List.cons_append, List.nil_append]); refine (?_ : HintTo _ _ _ _) (by repeat' (with_reducible (first | exact pkA | apply pkB | apply pkC | exact pkD | apply pkE | exact pkF | apply pkG))); exact fun _ => sub_pick rfl))) (by (((repeat (with_reducible refine sep_cons (by (try dsimp only); k_all) ?_)); exact sep_nil))) ?_
      case haf => exact @Nat.ne_of_gt _ _ (by omega)
      case ha =>
        intro q hq
        simp only [List.mem_cons, List.not_mem_nil, or_false] at hq
        rcases hq with rfl | rfl
        · exact @Nat.ne_of_gt _ _ (by dsimp only; omega)
        · exact @Nat.ne_of_gt _ _ (by dsimp only; omega)
      intro r E' h' tk' hPk1 F' N' _
      refine pack fun G9 hG9 => ?_
      obtain ⟨rfl, t', rfl⟩ := hPk1
      refine hG9 ?_
      clear hG9
      simp only [List.cons_append, List.nil_append] at N'
      clear F2 N2
      have hat : bisL (fun i => decide ((strOf (row.drop (o.getD i 0))).cps.toList < (strOf (row.drop q)).cps.toList)) 0 o.length = cutAt row o q := rfl
      rw [hat] at *
      k_steps
      unfold Stop
      rename Fr _ _ _ _ => F2
      rename News _ _ _ _ => N2
      refine slice_led (l := la) (vs := ov) (k := ko) (a := cutAt row o q - 1) (b := cutAt row o q + 1) F2 N2 (by k_mem) (by omega) (by omega) (by omega) ?_
      intro D1 h9 F' N' hD1
      clear F2 N2
      k_steps
      unfold Stop
      rename Fr _ _ _ _ => F9
      rename News _ _ _ _ => N9
      have hDp : @LT.lt Nat _ lp D1 := hD1 (lp, listOf pv.toArray kp) (by k_mem)
      have hDa : @LT.lt Nat _ la D1 := hD1 (la, listOf ov.toArray ko) (by k_mem)
      have hDf : @LT.lt Nat _ f D1 := hD1 (f, fo) (by k_mem)
      have hDc : @LT.lt Nat _ cd D1 := hD1 (cd, oc) (by k_mem)
      have hDl : @LT.lt Nat _ (L + 1) D1 := hD1 (L + 1, ocell) (by k_mem)
      have hD7 : @LT.lt Nat _ 187 D1 := hD1 (187, tabObj tb) (by k_mem)
      have hD1' : ∀ p ∈ R1, p.1 ≠ D1 := fun p hp => Nat.ne_of_lt (hD1 p (by repeat (first | exact hp | apply tail_in)))
      refine list_loop (vs := (ov.drop (cutAt row o q - 1)).take (cutAt row o q + 1 - (cutAt row o q - 1))) (k := 0) (I2 lp la f cd fo oc ocell tb D1 q ko kp tq o ov pv R1) rfl F9 (news_sub N9 (l' := (D1, listOf ((ov.drop (cutAt row o q - 1)).take (cutAt row o q + 1 - (cutAt row o q - 1))).toArray 0) :: (lp, listOf pv.toArray kp) :: (la, listOf ov.toArray ko) :: (f, fo) :: (cd, oc) :: (L + 1, ocell) :: (187, tabObj tb) :: R1) (by (((try simp only [List.cons_append, List.nil_append]); refine (?_ : HintTo _ _ _ _) (by repeat' (with_reducible (first | exact pkA | apply pkB | apply pkC | exact pkD | apply pkE | exact pkF | apply pkG))); exact fun _ => sub_pick rfl)))) ?h0 ?hl ?turn2 ?done
      case h0 => exact ⟨_, _, (0, 0), rfl, ⟨rfl, rfl⟩, ⟨rfl, rfl, rfl, rfl⟩, rfl⟩
      case hl => rintro i m nl ⟨_, _, _, _, _, _, rfl⟩; exact .head _
      case turn2 =>
        rintro i v D o9 h tk m nl hi hI9 hDn hDl F N
        try k_fold
        refine pack fun G9 hG9 => ?_
        obtain ⟨ts, tb', sb, hsb, ⟨i1, i2⟩, ⟨i3, i4, i5, i6⟩, rfl⟩ := hI9
        refine hG9 ?_
        clear hG9
        clear F9 N9
        rw [nm1 i6, under (nm1 i5), under (under (nm1 i4)), under (under (under (nm1 i3))), under (under (under (under (nm1 i2)))), under (under (under (under (under (nm1 i1)))))] at F
        k_steps
        unfold Stop
        rename Fr _ _ _ _ => F9
        rename News _ _ _ _ => N9
        have hvi : i < cutAt row o q + 1 - (cutAt row o q - 1) ∧ ov[cutAt row o q - 1 + i]? = some v := by
          rw [List.getElem?_take] at hi
          split at hi
          · exact ⟨by assumption, by rw [List.getElem?_drop] at hi; exact hi⟩
          · cases hi
        refine pack fun G9 hG9 => ?_
        obtain ⟨tx, rfl, hxm⟩ := ints_at hI hvi.2
        refine hG9 ?_
        clear hG9
        have hxq := (hS.2.1 _).mp hxm
        have hnear : (nearO row o q)[i]? = some (o.getD (cutAt row o q - 1 + i) 0) := by
          unfold nearO
          rw [List.getElem?_take, if_pos hvi.1, List.getElem?_drop, List.getD_eq_getElem?_getD]
          have hlt9 : cutAt row o q - 1 + i < o.length := by have := (List.getElem?_eq_some_iff.mp hvi.2).1; omega
          rw [List.getElem?_eq_getElem hlt9]; rfl
        generalize o.getD (cutAt row o q - 1 + i) 0 = x at *
        have hbest : bestOf row q ((nearO row o q).take (i + 1)) = (if lcp (row.drop x) (row.drop q) > sb.1 then (lcp (row.drop x) (row.drop q), q - x) else sb) := by
          rw [List.take_add_one, hnear, hsb]
          unfold bestOf
          rw [List.foldl_append]
          rfl
        refine While_inv (I3 lp la f cd fo oc ocell tb D D1 o9 q x ko kp tq ts tb' sb o ov pv R1) (n₀ := row.length) F9 N9 ?start3 ?turn3
        case start3 => exact ⟨0, _, _, rfl, Nat.zero_le _, ⟨rfl, rfl⟩, ⟨rfl, rfl⟩, ⟨rfl, rfl, rfl, rfl⟩, rfl⟩
        case turn3 =>
          rintro j m₁ news₁ h₁ tk₁ F₁ N₁ hI9
          try k_fold
          refine pack fun G9 hG9 => ?_
          obtain ⟨c, tc, tx', rfl, hc, ⟨c1, c2⟩, ⟨c3, c4⟩, ⟨c5, c6, c7, c8⟩, rfl⟩ := hI9
          refine hG9 ?_
          clear hG9
          clear F9 N9
          rw [nm1 c8, under (nm1 c7), under (under (nm1 c6)), under (under (under (nm1 c5))), under (under (under (under (nm1 c4)))), under (under (under (under (under (nm1 c3))))), under (under (under (under (under (under (nm1 c2)))))), under (under (under (under (under (under (under (nm1 c1)))))))] at F₁
          have fin1 : lcp (row.drop x) (row.drop q) = c → (sb.1 : Int) < (c : Int) → bestOf row q ((nearO row o q).take (i + 1)) = (c, q - x) := fun h1 h2 => by rw [hbest, h1, if_pos (by omega)]
          have fin2 : lcp (row.drop x) (row.drop q) = c → ¬ (sb.1 : Int) < (c : Int) → bestOf row q ((nearO row o q).take (i + 1)) = sb := fun h1 h2 => by rw [hbest, h1, if_neg (by omega)]
          have hsub : (q : Int) - (x : Int) = ((q - x : Nat) : Int) := by omega
          have hDf : ∀ p ∈ R1, p.1 ≠ D := fun p hp => hDl p (by repeat (first | exact hp | apply tail_in))
          have hlq2 := lcp_le_right (row.drop x) (row.drop q)
          rw [List.length_drop] at hlq2
          k_steps
          · unfold Stop
            have hqc : q + c < row.length := by omega
            refine item_strOf (i := x + c) (c := row[x + c]) (by omega) (by omega) (List.getElem?_eq_getElem (by omega)) ?_
            intro _ _
            k_steps
            unfold Stop
            refine item_strOf (i := q + c) (c := row[q + c]) (by omega) (by omega) (List.getElem?_eq_getElem (by omega)) ?_
            intro _ _
            have hrx : (row.drop x)[c]? = some row[x + c] := by rw [List.getElem?_drop]; exact List.getElem?_eq_getElem (by omega)
            have hrq : (row.drop q)[c]? = some row[q + c] := by rw [List.getElem?_drop]; exact List.getElem?_eq_getElem (by omega)
            have heq9 : (one row[x + c] == one row[q + c]) = decide (row[x + c] = row[q + c]) := by
              by_cases h9 : row[x + c] = row[q + c]
              · rw [h9, decide_eq_true rfl]; simp
              · rw [decide_eq_false h9]
                exact beq_false_of_ne fun e => h9 (by simpa [one] using e)
            have hno : ¬ row[x + c] = row[q + c] → lcp (row.drop x) (row.drop q) = c := fun h9 => by
              refine Nat.le_antisymm (Nat.not_lt.mp fun h8 => ?_) hc
              have := lcp_less h8
              rw [hrx, hrq] at this
              exact h9 (Option.some.inj this)
            k_steps
            · rename (one _ == one _) = true => h9
              rw [heq9, decide_eq_true_iff] at h9
              exact WhileStep.intro (n' := row.length - (c + 1)) (by assumption) (by assumption) (by omega) ⟨c + 1, _, _, rfl, lcp_more hc hrx (h9 ▸ hrq), ⟨rfl, rfl⟩, ⟨rfl, rfl⟩, ⟨rfl, rfl, rfl, rfl⟩, rfl⟩
            · rename (one _ == one _) = false => h9
              rw [heq9, decide_eq_false_iff_not] at h9
              refine ListStep.next (_ :: _) (by assumption) (news_sub (by assumption) (by (((try simp only [List.cons_append, List.nil_append]); refine (?_ : HintTo _ _ _ _) (by repeat' (with_reducible (first | exact pkA | apply pkB | apply pkC | exact pkD | apply pkE | exact pkF | apply pkG))); exact fun _ => sub_pick rfl)))) ⟨_, _, (c, q - x), (fin1 (hno h9) (by omega)).symm, ⟨rfl, Eq.trans rfl (intEq hsub)⟩, ⟨rfl, rfl, rfl, rfl⟩, rfl⟩ hDl
            · rename (one _ == one _) = false => h9
              rw [heq9, decide_eq_false_iff_not] at h9
              refine ListStep.next (_ :: _) (by assumption) (news_sub (by assumption) (by (((try simp only [List.cons_append, List.nil_append]); refine (?_ : HintTo _ _ _ _) (by repeat' (with_reducible (first | exact pkA | apply pkB | apply pkC | exact pkD | apply pkE | exact pkF | apply pkG))); exact fun _ => sub_pick rfl)))) ⟨_, _, sb, (fin2 (hno h9) (by omega)).symm, ⟨rfl, rfl⟩, ⟨rfl, rfl, rfl, rfl⟩, rfl⟩ hDl
          · have hl1 : lcp (row.drop x) (row.drop q) = c := by omega
            refine ListStep.next (_ :: _) (by assumption) (news_sub (by assumption) (by (((try simp only [List.cons_append, List.nil_append]); refine (?_ : HintTo _ _ _ _) (by repeat' (with_reducible (first | exact pkA | apply pkB | apply pkC | exact pkD | apply pkE | exact pkF | apply pkG))); exact fun _ => sub_pick rfl)))) ⟨_, _, (c, q - x), (fin1 hl1 (by omega)).symm, ⟨rfl, Eq.trans rfl (intEq hsub)⟩, ⟨rfl, rfl, rfl, rfl⟩, rfl⟩ hDl
          · have hl1 : lcp (row.drop x) (row.drop q) = c := by omega
            refine ListStep.next (_ :: _) (by assumption) (news_sub (by assumption) (by (((try simp only [List.cons_append, List.nil_append]); refine (?_ : HintTo _ _ _ _) (by repeat' (with_reducible (first | exact pkA | apply pkB | apply pkC | exact pkD | apply pkE | exact pkF | apply pkG))); exact fun _ => sub_pick rfl)))) ⟨_, _, sb, (fin2 hl1 (by omega)).symm, ⟨rfl, rfl⟩, ⟨rfl, rfl, rfl, rfl⟩, rfl⟩ hDl
      case done =>
        rintro h tk m nl hI9 F N
        try k_fold
        refine pack fun G9 hG9 => ?_
        obtain ⟨ts, tb', sb, hsb, ⟨i1, i2⟩, ⟨i3, i4, i5, i6⟩, rfl⟩ := hI9
        refine hG9 ?_
        clear hG9
        clear F9 N9
        rw [nm1 i6, under (nm1 i5), under (under (nm1 i4)), under (under (under (nm1 i3))), under (under (under (under (nm1 i2)))), under (under (under (under (under (nm1 i1)))))] at F
        k_steps
        unfold Stop
        refine For_it ?_
        k_steps
        unfold Stop
        rename Fr _ _ _ _ => F9
        rename News _ _ _ _ => N9
        obtain ⟨D9, N8, hD9⟩ : ∃ D9 : Addr, News g L _ ((D9, ({ cls := .type "tuple", data := .seq #[.int (sb.1 : Int) ts, .int (sb.2 : Int) tb'] } : Obj)) :: (D1, _) :: (lp, listOf (pv.toArray.push (.ref D9)) (kp + 1)) :: (la, listOf ov.toArray ko) :: (f, fo) :: (cd, oc) :: (L + 1, ocell) :: (187, tabObj tb) :: R1) ∧ (D1 < D9 ∧ lp < D9 ∧ la < D9 ∧ f < D9 ∧ cd < D9 ∧ L + 1 < D9 ∧ 187 < D9 ∧ AllLt D9 R1) := ⟨_, N9, by assumption⟩
        refine pack fun G9 hG9 => ?_
        obtain ⟨e1, e2, e3, e4, e5, e6, e7, e8⟩ := hD9
        refine hG9 ?_
        clear hG9
        replace e1 := natLt e1
        replace e2 := natLt e2
        replace e3 := natLt e3
        replace e4 := natLt e4
        replace e5 := natLt e5
        replace e6 := natLt e6
        replace e7 := natLt e7
        rw [List.push_toArray] at N8
        have hlen9 : ((ov.drop (cutAt row o q - 1)).take (cutAt row o q + 1 - (cutAt row o q - 1))).length = (nearO row o q).length := by
          unfold nearO
          simp only [List.length_take, List.length_drop, hlo]
        rw [hlen9, List.take_length] at hsb
        have hqlt : q < row.length := by omega
        have hpc : IsPiece row q sb := hsb ▸ piece_at hS hqlt
        have hfit := piece_fits hqlt hpc
        rename IsRange _ _ _ _ _ _ _ _ => hr9
        refine range_loop (max 1 sb.1) (I4 lp la f cd fo oc ocell tb D9 q kp ts tb' sb pv R1) rfl hr9 ?hsm ?hn F9 (news_sub N8 (l' := (D9, ({ cls := .type "tuple", data := .seq #[.int (sb.1 : Int) ts, .int (sb.2 : Int) tb'] } : Obj)) :: (lp, listOf (pv ++ [Value.ref D9]).toArray (kp + 1)) :: (la, listOf ov.toArray ko) :: (f, fo) :: (cd, oc) :: (L + 1, ocell) :: (187, tabObj tb) :: R1) (by (((try simp only [List.cons_append, List.nil_append]); refine (?_ : HintTo _ _ _ _) (by repeat' (with_reducible (first | exact pkA | apply pkB | apply pkC | exact pkD | apply pkE | exact pkF | apply pkG))); exact fun _ => sub_pick rfl)))) ?h0' ?turn4 ?done4
        case hsm =>
          refine range_small ?_ ?_ <;> (split <;> omega)
        case hn =>
          rw [range_size1 (by split <;> omega)]
          split <;> omega
        case h0' => exact ⟨o, ov, ko, tq, hS, hI, ⟨rfl, rfl, rfl, rfl⟩, rfl⟩
        case turn4 =>
          clear F9 N9
          rintro i t4 D o9 h tk m nl hi hI9 hDn hDl F N
          try k_fold
          refine pack fun G9 hG9 => ?_
          obtain ⟨o', ov', ko', tq', hS', hI', ⟨c1, c2, c3, c4⟩, rfl⟩ := hI9
          refine hG9 ?_
          clear hG9
          rw [nm1 c4, under (nm1 c3), under (under (nm1 c2)), under (under (under (nm1 c1)))] at F
          have a1 : @LT.lt Nat _ D9 D := hDn _ (.head _)
          have a2 : ∀ p ∈ R1, p.1 ≠ D := fun p hp => hDl p (by repeat (first | exact hp | apply tail_in))
          have a3 : @LT.lt Nat _ lp D := hDn _ (.tail _ (.head _))
          have a4 : @LT.lt Nat _ la D := hDn _ (.tail _ (.tail _ (.head _)))
          have a5 : @LT.lt Nat _ f D := hDn _ (.tail _ (.tail _ (.tail _ (.head _))))
          have a6 : @LT.lt Nat _ cd D := hDn _ (.tail _ (.tail _ (.tail _ (.tail _ (.head _)))))
          have a7 : @LT.lt Nat _ (L + 1) D := hDn _ (.tail _ (.tail _ (.tail _ (.tail _ (.tail _ (.head _))))))
          have a8 : @LT.lt Nat _ 187 D := hDn _ (.tail _ (.tail _ (.tail _ (.tail _ (.tail _ (.tail _ (.head _)))))))
          have hlo' : ov'.length = o'.length := by rw [hI'.length, List.length_map]
          have hlq' := hS'.2.2
          have hkk' : ∀ i v, ov'[i]? = some v → Spec w f [v] [] 20 200 ((f, fo) :: [(cd, oc), (L + 1, ocell)]) (fun r E' => E' = (f, fo) :: [(cd, oc), (L + 1, ocell)] ∧ ∃ t, r = .str (strOf (row.drop (o'.getD i 0))) t) := fun i v hv => by
            refine pack fun G9 hG9 => ?_
            obtain ⟨t9, rfl, hm⟩ := ints_at hI' hv
            refine hG9 ?_
            clear hG9
            exact hkey _ _ (by have := (hS'.2.1 _).mp hm; omega)
          k_steps
          unfold Stop
          rename Fr _ _ _ _ => F2
          rename News _ _ _ _ => N2
          refine spec_use (insort_right (w := w) (a := la) (f := f) (vs := ov') (k := ko') (x := strOf (row.drop (q + i))) (ks := fun i => strOf (row.drop (o'.getD i 0))) (EK := [(cd, oc), (L + 1, ocell)]) hlo' (by omega) (hkey (q + i) _ (by omega)) hkk' ?ha ?haf hfo) ((D, o9) :: (D9, ({ cls := .type "tuple", data := .seq #[.int (sb.1 : Int) ts, .int (sb.2 : Int) tb'] } : Obj)) :: (lp, listOf (pv ++ [Value.ref D9]).toArray (kp + 1)) :: (187, tabObj tb) :: R1) B F2 K N2 T rfl (by omega) (by omega) (by (((try simp only [List.cons_append, List.nil_append]); refine (?_ : HintTo _ _ _ _) (by repeat' (with_reducible (first | exact pkA | apply pkB | apply pkC | exact pkD | apply pkE | exact pkF | apply pkG))); exact fun _ => sub_pick rfl))) (by (((repeat (with_reducible refine sep_cons (by (try dsimp only); k_all) ?_)); exact sep_nil))) ?_
          case haf => exact @Nat.ne_of_gt _ _ (by omega)
          case ha =>
            intro q hq
            simp only [List.mem_cons, List.not_mem_nil, or_false] at hq
            rcases hq with rfl | rfl
            · exact @Nat.ne_of_gt _ _ (by dsimp only; omega)
            · exact @Nat.ne_of_gt _ _ (by dsimp only; omega)
          intro r E' h' tk' hPk2 F' N' _
          refine pack fun G9 hG9 => ?_
          obtain ⟨rfl, k', rfl⟩ := hPk2
          refine hG9 ?_
          clear hG9
          simp only [List.cons_append, List.nil_append] at N'
          clear F2 N2
          k_steps
          refine ListStep.next ((D9, ({ cls := .type "tuple", data := .seq #[.int (sb.1 : Int) ts, .int (sb.2 : Int) tb'] } : Obj)) :: (lp, listOf (pv ++ [Value.ref D9]).toArray (kp + 1)) :: (la, _) :: (f, fo) :: (cd, oc) :: (L + 1, ocell) :: (187, tabObj tb) :: R1) (by assumption) (news_sub (by assumption) (by (repeat ((with_reducible refine' List.forall_mem_cons.mpr ⟨?_, ?_⟩); (focus k_mem))); intro p hp; repeat (first | exact hp | refine tail_in ?_)))
            ⟨insO row o' (q + i), _, _, _, by have := ins_srt hS' (show q + i < row.length by omega); rwa [Nat.add_assoc] at this, ints_ins hI', ⟨rfl, rfl, rfl, rfl⟩, rfl⟩ ?_
          intro p hp
          have hq9 : ∃ q9 ∈ (D9, ({ cls := .type "tuple", data := .seq #[.int (sb.1 : Int) ts, .int (sb.2 : Int) tb'] } : Obj)) :: (lp, listOf (pv ++ [Value.ref D9]).toArray (kp + 1)) :: (la, listOf ov'.toArray ko') :: (f, fo) :: (cd, oc) :: (L + 1, ocell) :: (187, tabObj tb) :: R1, q9.1 = p.1 := by
            rcases List.mem_cons.mp hp with rfl | hp
            · exact ⟨_, .head _, rfl⟩
            rcases List.mem_cons.mp hp with rfl | hp
            · exact ⟨_, .tail _ (.head _), rfl⟩
            rcases List.mem_cons.mp hp with rfl | hp
            · exact ⟨_, .tail _ (.tail _ (.head _)), rfl⟩
            · exact ⟨p, .tail _ (.tail _ (.tail _ hp)), rfl⟩
          refine pack fun G9 hG9 => ?_
          obtain ⟨q9, h91, h92⟩ := hq9
          refine hG9 ?_
          clear hG9
          rw [← h92]
          exact hDl q9 h91
        case done4 =>
          clear F9 N9
          rintro h tk m nl hI9 F N
          try k_fold
          refine pack fun G9 hG9 => ?_
          obtain ⟨o', ov', ko', tq', hS', hI', ⟨c1, c2, c3, c4⟩, rfl⟩ := hI9
          refine hG9 ?_
          clear hG9
          rw [nm1 c4, under (nm1 c3), under (under (nm1 c2)), under (under (under (nm1 c1)))] at F
          k_steps
          refine WhileStep.intro (n' := row.length - (q + max 1 sb.1)) (by assumption) (news_sub N (l' := (lp, listOf (pv ++ [Value.ref D9]).toArray (kp + 1)) :: (la, listOf ov'.toArray ko') :: (f, fo) :: (cd, oc) :: (L + 1, ocell) :: (187, tabObj tb) :: ((tl ++ [(D9, ({ cls := .type "tuple", data := .seq #[.int (sb.1 : Int) ts, .int (sb.2 : Int) tb'] } : Obj))]) ++ rest)) ?sub) (by omega)
            ⟨o', ps ++ [sb], q + max 1 sb.1, ov', _, _, _, _, tq', rfl, hS', .snoc hP hqlt hpc, hI', hT.snoc, ?above, ⟨rfl, rfl, rfl, rfl⟩, rfl⟩
          case sub =>
            intro p hp
            rw [← hR1]
            exact sub_then (by (((try simp only [List.cons_append, List.nil_append]); refine (?_ : HintTo _ _ _ _) (by repeat' (with_reducible (first | exact pkA | apply pkB | apply pkC | exact pkD | apply pkE | exact pkF | apply pkG))); exact fun _ => sub_pick rfl))) (mem_mid (Z := [_, _, _, _, _, _]) hp)
          case above =>
            intro p hp
            rcases List.mem_append.mp hp with hp | hp
            · exact hTl p hp
            · rw [List.mem_singleton.mp hp]; exact e2
    · dsimp only
      have hq9 : q = row.length := by omega
      subst hq9
      refine Back.intro ((lp, listOf pv.toArray kp) :: (187, tabObj tb) :: tl) (by assumption) (news_sub (by assumption) ?sub2) ⟨lp, tb, tl, pv, ps, kp, rfl, hP, hT, hTl, rfl⟩ ?new
      case sub2 =>
        intro p hp
        rw [← hR1]
        exact sub_then (l' := (lp, listOf pv.toArray kp) :: (187, tabObj tb) :: (tl ++ rest)) (by (((try simp only [List.cons_append, List.nil_append]); refine (?_ : HintTo _ _ _ _) (by repeat' (with_reducible (first | exact pkA | apply pkB | apply pkC | exact pkD | apply pkE | exact pkF | apply pkG))); exact fun _ => sub_pick rfl))) hp
      case new =>
        have hlow : ∀ q ∈ [(187, tabObj #[])] ++ rest, @LT.lt Nat _ q.1 lp := fun q hq => by
          rcases List.mem_append.mp hq with hq | hq
          · rw [List.mem_singleton.mp hq]; show @LT.lt Nat _ 187 lp; omega
          · exact Nat.lt_trans (hR q hq) (by omega)
        refine NewOk.cons hlow (NewOk.keep (by simp) fun p hp => .inr fun q hq => Nat.lt_trans (hlow q hq) (hTl p hp))
theorem all (d : D) : H d := by
  refine eps_all ne H ?_ d
  have h := core
  unfold mark w row t mean mg mb dp un gd outer A₀ base g L h₁ rest s tk NPie.d at h
  exact h
end NPie
set_option maxRecDepth 100000 in
set_option maxHeartbeats 4000000 in
theorem law_pieces {w : World} {row : List Nat} (t : Tok) (hlen : row.length < 100) : mark PySem.Challenge.rw_us0019_01 K01
   (Spec w 192 [.str (strOf row) t] [] 60 600 [(187, tabObj #[])] fun r E' => ∃ l tb tl pv ps k, r = .ref l ∧ Pieces row ps row.length ∧ Tups tl pv ps ∧ (∀ p ∈ tl, @LT.lt Nat _ l p.1) ∧ E' = (l, listOf pv.toArray k) :: (187, tabObj tb) :: tl) := by
  ((k_fill; unfold mark; (k_dflt (refine' spec_cells ?ho ?hcd ?hd1 ?hb ?hl ?hnd ?hco ?hg ?hk ?_; (case ho => k_is); (case hcd => k_is); (case hd1 => decide); (case hb => intro _ KX; first | exact BindsTo.of_eq rfl | exact binds_K KX rfl (by k_is) rfl rfl rfl); (case hl => exact rfl); (case hnd => decide +kernel); (case hco => exact rfl); (case hg => exact rfl); (case hk => exact rfl)); (try dsimp only [pa19, bd19, sc19]))))
  intro mean mg mb dp un gd outer A₀ base g L h₁ cells rest s tk
  exact NPie.all ⟨w, row, t, mean, mg, mb, dp, un, gd, outer, A₀, base, g, L, h₁, rest, s, tk⟩ hlen cells
end
section
noncomputable abbrev Rises (xs : Array Nat) : Prop := xs.toList.Pairwise (· < ·)
theorem rises_at {xs : Array Nat} (h : Rises xs) {i j : Nat} (hij : i < j) (hj : j < xs.size) : xs.getD i 0 < xs.getD j 0 := by
  have := (List.pairwise_iff_getElem.mp h) i j (by simp; omega) (by simpa using hj) hij
  rw [Array.getElem_toList, Array.getElem_toList] at this
  simp only [Array.getD_eq_getD_getElem?]
  rw [Array.getElem?_eq_getElem (by omega), Array.getElem?_eq_getElem hj]
  exact this
theorem getD_any {xs : Array Nat} {i : Nat} (h : i < xs.size) (a b : Nat) : xs.getD i a = xs.getD i b := by
  rw [Array.getD_eq_getD_getElem?, Array.getD_eq_getD_getElem?, Array.getElem?_eq_getElem h]
  rfl
theorem below_go {xs : Array Nat} (h : Rises xs) (j : Nat) : ∀ (fuel lo hi : Nat), hi - lo ≤ fuel → lo ≤ hi → hi ≤ xs.size → (∀ i, i < lo → xs.getD i 0 < j) → (∀ i, hi ≤ i → i < xs.size → j ≤ xs.getD i 0) →
    SetTable.below.go xs j fuel lo hi ≤ xs.size ∧ (∀ i, i < SetTable.below.go xs j fuel lo hi → xs.getD i 0 < j) ∧ (∀ i, SetTable.below.go xs j fuel lo hi ≤ i → i < xs.size → j ≤ xs.getD i 0)
  | 0, lo, hi, h1, h2, h3, h4, h5 => by
    have : lo = hi := by omega
    subst this
    exact ⟨h3, h4, h5⟩
  | fuel + 1, lo, hi, h1, h2, h3, h4, h5 => by
    rw [SetTable.below.go]
    by_cases hl : lo < hi
    · rw [if_pos hl]
      dsimp only
      rw [getD_any (show (lo + hi) / 2 < xs.size by omega) j 0]
      by_cases hm : xs.getD ((lo + hi) / 2) 0 < j
      · rw [if_pos hm]
        refine below_go h j fuel _ hi (by omega) (by omega) h3 (fun i hi' => ?_) h5
        rcases Nat.lt_or_ge i ((lo + hi) / 2) with h9 | h9
        · exact Nat.lt_trans (rises_at h h9 (by omega)) hm
        · have : i = (lo + hi) / 2 := by omega
          rw [this]; exact hm
      · rw [if_neg hm]
        refine below_go h j fuel lo _ (by omega) (by omega) (by omega) h4 (fun i hi' hs => ?_)
        rcases Nat.lt_or_ge ((lo + hi) / 2) i with h9 | h9
        · have := rises_at h h9 hs; omega
        · have : i = (lo + hi) / 2 := by omega
          rw [this]; omega
    · rw [if_neg hl]
      have : lo = hi := by omega
      subst this
      exact ⟨h3, h4, h5⟩
theorem below_spec {xs : Array Nat} (h : Rises xs) (j : Nat) : SetTable.below xs j ≤ xs.size ∧ (∀ i, i < SetTable.below xs j → xs.getD i 0 < j) ∧ (∀ i, SetTable.below xs j ≤ i → i < xs.size → j ≤ xs.getD i 0) :=
  below_go h j xs.size 0 xs.size (by omega) (by omega) (Nat.le_refl _) (by omega) (by omega)
theorem below_next {xs : Array Nat} (h : Rises xs) {i : Nat} (hi : i < xs.size) : SetTable.below xs (xs.getD i 0 + 1) = i + 1 := by
  obtain ⟨h1, h2, h3⟩ := below_spec h (xs.getD i 0 + 1)
  rcases Nat.lt_trichotomy (SetTable.below xs (xs.getD i 0 + 1)) (i + 1) with h9 | h9 | h9
  · have := h3 i (by omega) hi; omega
  · exact h9
  · have := h2 (i + 1) h9
    have h8 := rises_at h (show i < i + 1 by omega) (by omega : i + 1 < xs.size)
    omega
theorem below_first {xs : Array Nat} (h : Rises xs) : SetTable.below xs 0 = 0 := by
  obtain ⟨h1, h2, h3⟩ := below_spec h 0
  rcases Nat.eq_zero_or_pos (SetTable.below xs 0) with h9 | h9
  · exact h9
  · have := h2 0 h9; omega
theorem slot_notin {t : SetTable} (h : Rises t.place) {j : Nat} (hs : ∀ i, t.slot j ≠ .live i) : j ∉ t.place.toList := fun hm => by
  obtain ⟨i, hi, e⟩ := List.mem_iff_getElem.mp hm
  have hi' : i < t.place.size := by simpa using hi
  rw [Array.getElem_toList] at e
  have eg : t.place.getD i 0 = j := by rw [Array.getD_eq_getD_getElem?, Array.getElem?_eq_getElem hi']; exact e
  obtain ⟨h1, h2, h3⟩ := below_spec h j
  have hb : SetTable.below t.place j = i := by
    rcases Nat.lt_trichotomy (SetTable.below t.place j) i with h9 | h9 | h9
    · have := h3 _ (Nat.le_refl _) (by omega)
      have h8 := rises_at h h9 hi'
      omega
    · exact h9
    · have := h2 i h9; omega
  refine hs i ?_
  unfold SetTable.slot
  rw [hb]
  dsimp only
  rw [Array.getElem?_eq_getElem hi', e]
  simp
theorem insert_rises {xs : Array Nat} (h : Rises xs) {j : Nat} (hj : j ∉ xs.toList) : Rises (SetTable.insertAt xs (SetTable.below xs j) j) := by
  obtain ⟨h1, h2, h3⟩ := below_spec h j
  generalize SetTable.below xs j = p at *
  unfold SetTable.insertAt Rises
  have e : ((xs.extract 0 p).push j ++ xs.extract p xs.size).toList = xs.toList.take p ++ j :: xs.toList.drop p := by
    simp only [Array.toList_append, Array.toList_push, Array.toList_extract, List.extract_eq_take_drop, List.drop_zero, Nat.sub_zero]
    rw [List.take_of_length_le (show (xs.toList.drop p).length ≤ xs.size - p by simp)]
    simp
  rw [e]
  have hsplit : (xs.toList.take p ++ xs.toList.drop p).Pairwise (· < ·) := by rw [List.take_append_drop]; exact h
  obtain ⟨a1, a2, a3⟩ := List.pairwise_append.mp hsplit
  refine List.pairwise_append.mpr ⟨a1, List.pairwise_cons.mpr ⟨fun y hy => ?_, a2⟩, fun x hx y hy => ?_⟩
  · obtain ⟨i, hi, rfl⟩ := List.mem_iff_getElem.mp hy
    rw [List.length_drop] at hi
    have hi' : p + i < xs.size := by simp at hi; omega
    have := h3 (p + i) (by omega) hi'
    rw [Array.getD_eq_getD_getElem?, Array.getElem?_eq_getElem hi'] at this
    rw [List.getElem_drop, Array.getElem_toList]
    have hne : xs[p + i] ≠ j := fun q => hj (by rw [← q, ← Array.getElem_toList]; exact List.getElem_mem _)
    have h9 : j ≤ xs[p + i] := this
    omega
  · rcases List.mem_cons.mp hy with rfl | hy
    · obtain ⟨i, hi, rfl⟩ := List.mem_iff_getElem.mp hx
      rw [List.length_take] at hi
      have hi' : i < xs.size := by simp at hi; omega
      have := h2 i (by omega)
      rw [Array.getD_eq_getD_getElem?, Array.getElem?_eq_getElem hi'] at this
      rw [List.getElem_take, Array.getElem_toList]
      exact this
    · exact a3 x hx y hy
theorem range_rises (n : Nat) : Rises (Array.range n) := by
  unfold Rises
  rw [Array.toList_range]
  exact List.pairwise_lt_range
theorem orStand_led (t : SetTable) (n : Nat) : (t.orStandIn n).led = t.led := by unfold SetTable.orStandIn; split <;> rfl
theorem layNew_led (t : SetTable) (es : Array (Int × Value)) (h : Int) (x : Value) : (layNew t es h x).2.1.led = t.led := by
  unfold layNew
  split
  · dsimp only; exact (orStand_led _ _).trans rfl
  · rfl
theorem live_sub (f : Nat → Option Nat) : ∀ l : List Nat, ((l.filterMap fun j => (f j).map (j, ·)).map (·.1)).Sublist l
  | [] => .slnil
  | a :: r => by
    rw [List.filterMap_cons]
    cases f a with
    | none => exact (live_sub f r).cons a
    | some k => exact (live_sub f r).cons_cons a
theorem laid_ok {mask finger moves : Nat} {led plain : Bool} {hashes : Array Int} {t : SetTable} {ord : Array Nat} (e : SetTable.laid mask finger moves led plain hashes = some (t, ord)) : Rises t.place ∧ t.led = led := by
  unfold SetTable.laid at e
  simp only [Option.bind_eq_bind, Option.bind_eq_some_iff] at e
  obtain ⟨owner, _, e⟩ := e
  obtain ⟨rfl, rfl⟩ := Prod.mk.inj (Option.some.inj e)
  refine ⟨?_, rfl⟩
  unfold Rises
  dsimp only
  exact List.pairwise_lt_range.sublist (live_sub _ _)
theorem relay_led (t : SetTable) (es : Array (Int × Value)) (n : Nat) : (relayAll t es n).2.1.led = t.led := by
  unfold relayAll
  split
  · rename_i t' ord e
    dsimp only
    split
    · exact (laid_ok e).2
    · rfl
  · rfl
theorem relay_rises (t : SetTable) (es : Array (Int × Value)) (n : Nat) : Rises (relayAll t es n).2.1.place := by
  unfold relayAll
  split
  · rename_i t' ord e
    dsimp only
    split
    · exact (laid_ok e).1
    · exact range_rises _
  · exact range_rises _
end
section
set_option tactic.hygienic false
theorem bits_small : ∀ k : Nat, k < 32 → SetTable.bits (hashInt (k : Int)) = k := by decide +kernel
theorem slot_cases {t : SetTable} (hd : t.dummies = #[]) (hr : Rises t.place) (j : Nat) : (j ∈ t.place.toList ∧ ∃ i, t.slot j = .live i) ∨ (j ∉ t.place.toList ∧ t.slot j = .empty) := by
  cases hs : t.slot j with
  | live i =>
    refine .inl ⟨?_, i, rfl⟩
    unfold SetTable.slot at hs
    dsimp only at hs
    split at hs
    · rename_i h
      have := eq_of_beq h
      obtain ⟨hi, e⟩ := Array.getElem?_eq_some_iff.mp this
      rw [← e, ← Array.getElem_toList]
      exact List.getElem_mem _
    · split at hs <;> cases hs
  | empty => exact .inr ⟨slot_notin hr (fun i q => by rw [hs] at q; cases q), rfl⟩
  | dummy =>
    unfold SetTable.slot at hs
    dsimp only at hs
    split at hs
    · cases hs
    · split at hs
      · rename_i h
        rw [hd] at h
        simp [SetTable.has] at h
      · cases hs
theorem probe_step {t : SetTable} {h : Int} {fuel : Nat} {p : SetTable.Probe} (hs : ∃ i, t.slot p.j = .live i) : SetTable.probe.go t (fun _ => h + 1) h (fuel + 1) p = SetTable.probe.go t (fun _ => h + 1) h fuel (t.advance p) := by
  obtain ⟨i, hs⟩ := hs
  rw [SetTable.probe.go, hs]
  dsimp only
  rw [if_neg (by simp; omega)]
theorem probe_hit {t : SetTable} {h : Int} {fuel : Nat} {p : SetTable.Probe} (hs : t.slot p.j = .empty) : SetTable.probe.go t (fun _ => h + 1) h (fuel + 1) p = some (.empty p.j p.dummy) := by
  rw [SetTable.probe.go, hs]
noncomputable def at8 (i : Nat) : SetTable.Probe → Prop := fun p => p.j = i ∧ p.i = i ∧ p.more = 0 ∧ p.perturb < 32 ∧ p.dummy = none
theorem adv8 {t : SetTable} (hm : t.mask = 7) {i : Nat} {p : SetTable.Probe} (hp : at8 i p) : at8 ((i * 5 + 1) % 8) (t.advance p) := by
  obtain ⟨h1, h2, h3, h4, h5⟩ := hp
  unfold SetTable.advance
  rw [if_neg (by omega)]
  unfold SetTable.leap
  dsimp only
  have h0 : p.perturb / 32 = 0 := by omega
  rw [hm, h2, h0]
  refine ⟨rfl, rfl, ?_, (show 0 < 32 by decide), h5⟩
  show SetTable.runEnd 7 _ - _ = 0
  unfold SetTable.runEnd
  rw [if_neg (by omega)]
  omega
noncomputable def visits : Nat → Nat → List Nat
  | 0, _ => []
  | n + 1, i => i :: visits n ((i * 5 + 1) % 8)
theorem visits_all : ∀ i, i < 8 → ∀ j, j < 8 → j ∈ visits 8 i := by decide +kernel
theorem search8 {t : SetTable} (hm : t.mask = 7) (hd : t.dummies = #[]) (hr : Rises t.place) (h : Int) : ∀ (n i fuel : Nat) (p : SetTable.Probe), i < 8 → at8 i p → (∃ j ∈ visits n i, j ∉ t.place.toList) →
    ∃ j, j < 8 ∧ j ∉ t.place.toList ∧ SetTable.probe.go t (fun _ => h + 1) h (fuel + n) p = some (.empty j none)
  | 0, _, _, _, _, _, hex => by obtain ⟨j, hj, _⟩ := hex; cases hj
  | n + 1, i, fuel, p, hi, hp, hex => by
    have hj := hp.1
    rw [← Nat.add_assoc]
    rcases slot_cases hd hr p.j with ⟨hin, hl⟩ | ⟨hout, he⟩
    · rw [probe_step hl]
      refine search8 hm hd hr h n _ fuel _ (Nat.mod_lt _ (by decide)) (adv8 hm hp) ?_
      obtain ⟨j, hjm, hjn⟩ := hex
      rcases List.mem_cons.mp hjm with rfl | hjm
      · exact absurd (hj ▸ hin) hjn
      · exact ⟨j, hjm, hjn⟩
    · rw [probe_hit he, hp.2.2.2.2]
      exact ⟨p.j, by rw [hj]; exact hi, hout, rfl⟩
theorem free8 {t : SetTable} (hm : t.mask = 7) (hd : t.dummies = #[]) (hr : Rises t.place) (hs : t.place.size ≤ 4) {k : Nat} (hk : k < 32) : ∃ j, j < 8 ∧ j ∉ t.place.toList ∧ t.freeSlot (hashInt (k : Int)) = some (j, false) := by
  have hfree : ∃ j, j < 8 ∧ j ∉ t.place.toList := by
    by_cases hx : ∃ j, j < 8 ∧ j ∉ t.place.toList
    · exact hx
    · exfalso
      have hsub : List.range 8 ⊆ t.place.toList := fun j hj => by
        by_cases h9 : j ∈ t.place.toList
        · exact h9
        · exact absurd ⟨j, List.mem_range.mp hj, h9⟩ hx
      have := List.Nodup.length_le_of_subset List.nodup_range hsub
      simp at this
      omega
  obtain ⟨j0, hj0, hn0⟩ := hfree
  have hb := bits_small k hk
  obtain ⟨j, h1, h2, h3⟩ := search8 hm hd hr (hashInt (k : Int)) 8 (k % 8) 212 (t.probeStart (hashInt (k : Int))) (Nat.mod_lt _ (by decide)) ⟨by unfold SetTable.probeStart; dsimp only; rw [hb, hm], by unfold SetTable.probeStart; dsimp only; rw [hb, hm], by
      unfold SetTable.probeStart SetTable.runEnd; dsimp only; rw [hb, hm, if_neg (by omega)]; omega, by unfold SetTable.probeStart; dsimp only; rw [hb]; exact hk, rfl⟩ ⟨j0, visits_all _ (Nat.mod_lt _ (by decide)) _ hj0, hn0⟩
  refine ⟨j, h1, h2, ?_⟩
  unfold SetTable.freeSlot SetTable.probe
  rw [hm, show 10 * SetTable.turns 7 = 212 + 8 by decide, h3]
  rfl
theorem free32 {t : SetTable} (hm : t.mask = 31) (hd : t.dummies = #[]) (hr : Rises t.place) {k : Nat} (hk : k < 32) (hn : k ∉ t.place.toList) : t.freeSlot (hashInt (k : Int)) = some (k, false) := by
  have hb := bits_small k hk
  unfold SetTable.freeSlot SetTable.probe
  have hj : (t.probeStart (hashInt (k : Int))).j = k := by unfold SetTable.probeStart; dsimp only; rw [hb, hm]; omega
  have he : t.slot (t.probeStart (hashInt (k : Int))).j = .empty := by
    rw [hj]
    rcases slot_cases hd hr k with ⟨h, _⟩ | ⟨_, h⟩
    · exact absurd h hn
    · exact h
  rw [hm, show 10 * SetTable.turns 31 = 459 + 1 by decide, probe_hit he, hj]
  rfl
end
section
noncomputable def Owned (owner : Array (Option Nat)) (ks : List Nat) : Prop := owner.size = 32 ∧ ∀ j, j < 32 → owner[j]? = some (if j ∈ ks then some (ks.idxOf j) else none)
theorem owned_nil : Owned (Array.replicate 32 none) [] := ⟨by simp, fun j hj => by simp [hj]⟩
theorem free_own {owner : Array (Option Nat)} {ks : List Nat} (ho : Owned owner ks) {c fuel pt : Nat} (hc : c < 32) (hn : c ∉ ks) : SetTable.layClean.free 31 owner (fuel + 1) c pt = some c := by
  rw [SetTable.layClean.free]
  have h1 : SetTable.runEnd 31 c + 1 - c = (SetTable.runEnd 31 c - c) + 1 := by unfold SetTable.runEnd; split <;> omega
  rw [h1, List.range_succ_eq_map, List.find?_cons]
  have h2 : (owner.getD (c + 0) (some 0)).isNone = true := by
    rw [Nat.add_zero, Array.getD_eq_getD_getElem?, ho.2 c hc, if_neg hn]
    rfl
  rw [h2]
  rfl
theorem owned_step {owner : Array (Option Nat)} {ks : List Nat} (ho : Owned owner ks) {c : Nat} (hc : c < 32) (hn : c ∉ ks) : Owned (owner.setIfInBounds c (some ks.length)) (ks ++ [c]) := by
  refine ⟨by rw [Array.size_setIfInBounds]; exact ho.1, fun j hj => ?_⟩
  rw [Array.getElem?_setIfInBounds]
  by_cases e : c = j
  · subst e
    rw [if_pos rfl, if_pos (by rw [ho.1]; exact hc), if_pos (by simp), List.idxOf_append, if_neg hn]
    simp
  · rw [if_neg e, ho.2 j hj]
    have hm : j ∈ ks ++ [c] ↔ j ∈ ks := by simp; intro h; exact absurd h.symm e
    by_cases hj2 : j ∈ ks
    · rw [if_pos hj2, if_pos (hm.mpr hj2), List.idxOf_append, if_pos hj2]
    · rw [if_neg hj2, if_neg (fun h => hj2 (hm.mp h))]
theorem lay_fold : ∀ (cs pre : List Nat) (owner : Array (Option Nat)), Owned owner pre → (∀ c ∈ cs, c < 32) → (pre ++ cs).Nodup → ∃ owner', Owned owner' (pre ++ cs) ∧
    (cs.map fun c : Nat => hashInt (c : Int)).foldl (init := some (owner, pre.length)) (fun (acc : Option (Array (Option Nat) × Nat)) h => do
      let (owner, k) ← acc
      let j ← SetTable.layClean.free 31 owner (SetTable.turns 31) (SetTable.bits h % (31 + 1)) (SetTable.bits h)
      pure (owner.setIfInBounds j (some k), k + 1)) = some (owner', (pre ++ cs).length)
  | [], pre, owner, ho, _, _ => ⟨owner, by simpa using ho, by simp⟩
  | c :: cs, pre, owner, ho, hc, hn => by
    have hcn : c ∉ pre := by
      rw [List.nodup_append] at hn
      exact fun h => hn.2.2 c h c (.head _) rfl
    have h32 := hc c (.head _)
    obtain ⟨owner', h1, h2⟩ := lay_fold cs (pre ++ [c]) _ (owned_step ho h32 hcn) (fun x hx => hc x (.tail _ hx)) (by simpa using hn)
    refine ⟨owner', by simpa using h1, ?_⟩
    rw [List.map_cons, List.foldl_cons]
    have hb := bits_small c h32
    have hstep : (do
      let (owner, k) ← some (owner, pre.length)
      let j ← SetTable.layClean.free 31 owner (SetTable.turns 31) (SetTable.bits (hashInt (c : Int)) % (31 + 1)) (SetTable.bits (hashInt (c : Int)))
      pure (owner.setIfInBounds j (some k), k + 1)) = some (owner.setIfInBounds c (some pre.length), (pre ++ [c]).length) := by
      rw [hb, Nat.mod_eq_of_lt h32]
      simp only [Option.bind_eq_bind, Option.bind_some]
      rw [show SetTable.turns 31 = 45 + 1 by decide, free_own ho h32 hcn]
      simp
    rw [hstep, h2]
    simp
theorem layClean_ok {ks : List Nat} (h32 : ∀ c ∈ ks, c < 32) (hn : ks.Nodup) {hashes : Array Int} (hh : hashes.toList = ks.map fun c : Nat => hashInt (c : Int)) : ∃ owner, Owned owner ks ∧ SetTable.layClean 31 hashes = some owner := by
  obtain ⟨owner, h1, h2⟩ := lay_fold ks [] _ owned_nil h32 (by simpa using hn)
  refine ⟨owner, by simpa using h1, ?_⟩
  unfold SetTable.layClean
  rw [← Array.foldl_toList, hh]
  have := congrArg (Option.map (·.1)) h2
  exact this
noncomputable def inPlace (ks : List Nat) : List Nat := (List.range 32).filter fun j => decide (j ∈ ks)
theorem inPlace_perm {ks : List Nat} (h32 : ∀ c ∈ ks, c < 32) (hn : ks.Nodup) : (inPlace ks).Perm ks := by
  refine (List.perm_ext_iff_of_nodup (List.nodup_range.filter _) hn).mpr fun j => ?_
  rw [List.mem_filter, List.mem_range, decide_eq_true_eq]
  exact ⟨fun h => h.2, fun h => ⟨h32 j h, h⟩⟩
theorem live_own (owner : Array (Option Nat)) (ks : List Nat) : ∀ l : List Nat, (∀ j ∈ l, owner.getD j none = if j ∈ ks then some (ks.idxOf j) else none) →
    (l.filterMap fun j => (owner.getD j none).map (j, ·)) = (l.filter fun j => decide (j ∈ ks)).map fun j => (j, ks.idxOf j)
  | [], _ => rfl
  | a :: r, h => by
    rw [List.filterMap_cons, h a (.head _), live_own owner ks r fun j hj => h j (.tail _ hj)]
    by_cases ha : a ∈ ks
    · rw [if_pos ha, List.filter_cons_of_pos (by simpa using ha)]
      rfl
    · rw [if_neg ha, List.filter_cons_of_neg (by simpa using ha)]
      rfl
theorem laid_own {ks : List Nat} (h32 : ∀ c ∈ ks, c < 32) (hn : ks.Nodup) {hashes : Array Int} (hh : hashes.toList = ks.map fun c : Nat => hashInt (c : Int)) {finger moves : Nat} {led plain : Bool} :
    SetTable.laid 31 finger moves led plain hashes = some ({ mask := 31, place := (inPlace ks).toArray, dummies := #[], finger, led, moves, plain }, ((inPlace ks).map ks.idxOf).toArray) := by
  obtain ⟨owner, ho, he⟩ := layClean_ok h32 hn hh
  unfold SetTable.laid
  rw [he]
  have hl : ((List.range (31 + 1)).filterMap fun j => (owner.getD j none).map (j, ·)) = (inPlace ks).map fun j => (j, ks.idxOf j) := live_own owner ks _ fun j hj => by
    rw [Array.getD_eq_getD_getElem?, ho.2 j (List.mem_range.mp hj)]
    rfl
  simp only [Option.bind_eq_bind, Option.bind_some]
  rw [hl, List.map_map, List.map_map]
  have e1 : (inPlace ks).map ((fun x : Nat × Nat => x.1) ∘ fun j => (j, ks.idxOf j)) = inPlace ks := by
    rw [show ((fun x : Nat × Nat => x.1) ∘ fun j => (j, ks.idxOf j)) = id from rfl, List.map_id]
  rw [e1]
  rfl
end
section
theorem idx_range {ks : List Nat} (hn : ks.Nodup) : ks.map ks.idxOf = List.range ks.length := by
  apply List.ext_getElem (by simp)
  intro i h1 h2
  rw [List.getElem_map, List.getElem_range]
  exact hn.idxOf_getElem i (by simpa using h1)
theorem pick_keys {α : Type} (l : List α) (ks : List Nat) (key : α → Nat) (hl : l.map key = ks) : ∀ js : List Nat, (∀ j ∈ js, j ∈ ks) → ((js.map ks.idxOf).filterMap fun i => l[i]?).map key = js ∧ ((js.map ks.idxOf).filterMap fun i => l[i]?).length = js.length
  | [], _ => ⟨rfl, rfl⟩
  | j :: r, h => by
    obtain ⟨h1, h2⟩ := pick_keys l ks key hl r fun x hx => h x (.tail _ hx)
    have hj := List.idxOf_lt_length_iff.mpr (h j (.head _))
    have hlen : l.length = ks.length := by rw [← hl, List.length_map]
    have hlt : ks.idxOf j < l.length := by omega
    rw [List.map_cons, List.filterMap_cons, List.getElem?_eq_getElem hlt]
    refine ⟨?_, by rw [List.length_cons, List.length_cons, h2]⟩
    show key _ :: _ = _
    rw [h1]
    congr 1
    have e : (l.map key)[ks.idxOf j]'(by rw [List.length_map]; exact hlt) = key l[ks.idxOf j] := List.getElem_map ..
    rw [← e]
    have e2 : (l.map key)[ks.idxOf j]'(by rw [List.length_map]; exact hlt) = ks[ks.idxOf j]'hj := by congr 1
    rw [e2]
    exact List.getElem_idxOf hj
theorem relay_own {t : SetTable} {es : Array (Int × Value)} {ks : List Nat} {wanted : Nat} (hw : SetTable.sizeAbove wanted = 32) (h32 : ∀ c ∈ ks, c < 32) (hn : ks.Nodup) (hlen : ks.length ≤ 31) (hh : es.toList.map (·.1) = ks.map fun c : Nat => hashInt (c : Int)) (key : Int × Value → Nat) (hk : es.toList.map key = ks) :
    ∃ es' t', relayAll t es wanted = (es', t', false) ∧ t'.mask = 31 ∧ t'.dummies = #[] ∧ t'.plain = t.plain ∧ t'.place.toList = inPlace ks ∧ es'.toList.map key = inPlace ks := by
  have hp := inPlace_perm h32 hn
  have hin : ∀ j ∈ inPlace ks, j ∈ ks := fun j hj => hp.mem_iff.mp hj
  obtain ⟨p1, p2⟩ := pick_keys es.toList ks key hk (inPlace ks) hin
  have hel : es.size = ks.length := by rw [← hk, List.length_map, Array.length_toList]
  have hr : t.relaid (es.map (·.1)) wanted = some ({ mask := 31, place := (inPlace ks).toArray, dummies := #[], finger := t.finger, led := t.led, moves := t.movedTo 31, plain := t.plain }, ((inPlace ks).map ks.idxOf).toArray) := by
    unfold SetTable.relaid
    rw [hw]
    exact laid_own h32 hn (by rw [Array.toList_map]; exact hh)
  have hes : (((inPlace ks).map ks.idxOf).toArray.filterMap (es[·]?)).toList = ((inPlace ks).map ks.idxOf).filterMap fun i => es.toList[i]? := by
    rw [Array.toList_filterMap]
    simp
  have hsz : (((inPlace ks).map ks.idxOf).toArray.filterMap (es[·]?)).size = (inPlace ks).length := by rw [← Array.length_toList, hes]; exact p2
  have hpl : (inPlace ks).length = ks.length := hp.length_eq
  have hc : coversAll ((inPlace ks).map ks.idxOf).toArray es.size = true := by
    unfold coversAll
    rw [List.isPerm_iff, hel, ← idx_range hn]
    exact hp.map _
  refine ⟨((inPlace ks).map ks.idxOf).toArray.filterMap (es[·]?), { mask := 31, place := (inPlace ks).toArray, dummies := #[], finger := t.finger, led := t.led, moves := t.movedTo 31, plain := t.plain }, ?_, rfl, rfl, rfl, rfl, by rw [hes]; exact p1⟩
  unfold relayAll
  rw [hr]
  dsimp only
  rw [if_pos]
  rw [hc, Bool.true_and]
  unfold SetTable.fits SetTable.fill
  rw [hsz]
  simp
  omega
end
section
set_option tactic.hygienic false
noncomputable def intOf : Value → Int
  | .int n _ => n
  | _ => 0
theorem ints_map : ∀ {vs : List Value}, (∀ v ∈ vs, ∃ n t, v = .int n t) → IntsAre vs (vs.map intOf)
  | [], _ => .nil
  | v :: r, h => by
    refine pack fun G9 hG9 => ?_
    obtain ⟨n, t, rfl⟩ := h v (.head _)
    refine hG9 ?_
    clear hG9
    exact .cons n t (ints_map fun x hx => h x (.tail _ hx))
noncomputable abbrev keyN (e : Int × Value) : Nat := (intOf e.2).toNat
noncomputable abbrev ksOf (es : Array (Int × Value)) : List Nat := es.toList.map keyN
noncomputable def Lies (es : Array (Int × Value)) (t : SetTable) : Prop :=
  t.plain = true ∧ t.dummies = #[] ∧ t.place.size = es.size ∧ Rises t.place ∧ (ksOf es).Nodup ∧ (∀ c ∈ ksOf es, c < 16) ∧ ((t.mask = 7 ∧ es.size ≤ 4) ∨ (t.mask = 31 ∧ t.place.toList = ksOf es))
noncomputable def SetLO (prog : Program) (w : World) (o : Obj) (ds : List Nat) : Prop :=
  o.ExactSet ∧ ∃ es ep t, o.data = .set es ep t ∧ ElemsOf (intKind prog w) es.toList ∧ (∀ e ∈ es.toList, 0 ≤ intOf e.2) ∧ (ksOf es).Perm ds ∧ Lies es t ∧ t.led = !(w.params.followText "set-order")
theorem few {ks : List Nat} (hn : ks.Nodup) (h : ∀ c ∈ ks, c < 16) : ks.length ≤ 16 := by
  have := List.Nodup.length_le_of_subset hn (fun c hc => List.mem_range.mpr (h c hc) : ks ⊆ List.range 16)
  simpa using this
theorem Lies.size {es : Array (Int × Value)} {t : SetTable} (h : Lies es t) : es.size ≤ 16 := by
  have := few h.2.2.2.2.1 h.2.2.2.2.2.1
  rwa [List.length_map, Array.length_toList] at this
theorem Lies.fits {es : Array (Int × Value)} {t : SetTable} (h : Lies es t) : t.fits es.size = true := by
  have h9 := h.size
  refine pack fun G9 hG9 => ?_
  obtain ⟨_, h2, h3, _, _, _, h7⟩ := h
  refine hG9 ?_
  clear hG9
  unfold SetTable.fits SetTable.fill
  rw [h2, h3]
  simp
  rcases h7 with ⟨a, b⟩ | ⟨a, _⟩ <;> omega
section
variable {prog : Program} {w : World} {A : Around} {E : Value → Shared → Prop} {s : Shared}
theorem elems_int {l : List (Int × Value)} (h : ElemsOf (intKind prog w) l) : ∀ e ∈ l, ∃ n t, e.2 = .int n t ∧ e.1 = hashInt n := fun e he => by
  refine pack fun G9 hG9 => ?_
  obtain ⟨⟨k, hk, hh⟩, _⟩ := h e he
  obtain ⟨t, ht⟩ := Value.isInt_shape (show Value.isInt k e.2 = true from hk)
  refine hG9 ?_
  clear hG9
  exact ⟨k, t, ht, hh⟩
theorem elem_is {l : List (Int × Value)} (h : ElemsOf (intKind prog w) l) (h0 : ∀ e ∈ l, 0 ≤ intOf e.2) (k : Nat) : (∃ e ∈ l, (intKind prog w).is (k : Int) e.2 = true) ↔ k ∈ l.map keyN := by
  rw [List.mem_map]
  constructor
  · intro hPk1
    refine pack fun G9 hG9 => ?_
    obtain ⟨e, he, hk⟩ := hPk1
    obtain ⟨t, ht⟩ := Value.isInt_shape (show Value.isInt k e.2 = true from hk)
    refine hG9 ?_
    clear hG9
    exact ⟨e, he, by unfold keyN; rw [ht]; rfl⟩
  · intro hPk2
    refine pack fun G9 hG9 => ?_
    obtain ⟨e, he, rfl⟩ := hPk2
    obtain ⟨n, t, ht, _⟩ := elems_int h e he
    refine hG9 ?_
    clear hG9
    have hz := h0 e he
    rw [ht] at hz
    refine ⟨e, he, ?_⟩
    unfold keyN
    rw [ht]
    have e9 : (((intOf (.int n t)).toNat : Nat) : Int) = n := Int.toNat_of_nonneg hz
    rw [e9]
    exact intKind_is _ _ _ _
theorem elems_hash {l : List (Int × Value)} (h : ElemsOf (intKind prog w) l) (h0 : ∀ e ∈ l, 0 ≤ intOf e.2) : l.map (·.1) = (l.map keyN).map fun c : Nat => hashInt (c : Int) := by
  rw [List.map_map]
  apply List.map_congr_left
  intro e he
  refine pack fun G9 hG9 => ?_
  obtain ⟨n, t, ht, hh⟩ := elems_int h e he
  refine hG9 ?_
  clear hG9
  have hz := h0 e he
  rw [ht] at hz
  show e.1 = hashInt ((keyN e : Nat) : Int)
  unfold keyN
  rw [ht, hh]
  congr 1
  exact (Int.toNat_of_nonneg hz).symm
theorem insert_list {α : Type} (xs : Array α) (p : Nat) (x : α) (_hp : p ≤ xs.size) : (SetTable.insertAt xs p x).toList = xs.toList.take p ++ x :: xs.toList.drop p := by
  unfold SetTable.insertAt
  simp only [Array.toList_append, Array.toList_push, Array.toList_extract, List.extract_eq_take_drop, List.drop_zero, Nat.sub_zero]
  rw [List.take_of_length_le (show (xs.toList.drop p).length ≤ xs.size - p by simp)]
  simp
theorem insert_size {α : Type} (xs : Array α) (p : Nat) (x : α) (hp : p ≤ xs.size) : (SetTable.insertAt xs p x).size = xs.size + 1 := by
  rw [← Array.length_toList, insert_list xs p x hp, List.length_append, List.length_cons, List.length_take, List.length_drop, Array.length_toList, Nat.min_eq_left hp, ← Nat.add_assoc, Nat.add_sub_cancel' hp]
theorem lay_one {es : Array (Int × Value)} {t : SetTable} (hL : Lies es t) {k : Nat} {tk : Tok} (hk : k < 16) (hn : k ∉ ksOf es) :
    ∃ es1 t1, layNew t es (hashInt (k : Int)) (.int (k : Int) tk) = (es1, t1, false, false) ∧ t1.plain = true ∧ t1.dummies = #[] ∧ t1.mask = t.mask ∧ t1.place.size = es1.size ∧ es1.size = es.size + 1 ∧ Rises t1.place ∧ (ksOf es1).Nodup ∧ (∀ c ∈ ksOf es1, c < 16) ∧
      (t.mask = 31 → t1.place.toList = ksOf es1) := by
  have hsz := hL.size
  refine pack fun G9 hG9 => ?_
  obtain ⟨h1, h2, h3, h4, h5, h6, h7⟩ := hL
  refine hG9 ?_
  clear hG9
  obtain ⟨slot, hs1, hs2, hs3⟩ : ∃ slot, slot ∉ t.place.toList ∧ t.freeSlot (hashInt (k : Int)) = some (slot, false) ∧ (t.mask = 31 → slot = k) := by
    rcases h7 with ⟨hm, hs⟩ | ⟨hm, hp⟩
    · obtain ⟨j, _, b, c⟩ := free8 hm h2 h4 (by omega) (show k < 32 by omega)
      exact ⟨j, b, c, fun q => by rw [hm] at q; cases q⟩
    · exact ⟨k, by rw [hp]; exact hn, free32 hm h2 h4 (by omega) (by rw [hp]; exact hn), fun _ => rfl⟩
  refine pack fun G9 hG9 => ?_
  obtain ⟨b1, _, _⟩ := below_spec h4 slot
  refine hG9 ?_
  clear hG9
  have hp : SetTable.below t.place slot ≤ es.size := by omega
  have hput : (t.put slot).1 = { t with place := SetTable.insertAt t.place (SetTable.below t.place slot) slot, dummies := #[] } := by
    unfold SetTable.put
    dsimp only
    rw [h2]
    simp [SetTable.has]
  have he1 := insert_list es (SetTable.below t.place slot) (hashInt (k : Int), Value.int (k : Int) tk) hp
  have hp1 := insert_list t.place (SetTable.below t.place slot) slot b1
  have hfit : ((t.put slot).1).fits (SetTable.insertAt es (SetTable.below t.place slot) (hashInt (k : Int), Value.int (k : Int) tk)).size = true := by
    rw [hput]
    unfold SetTable.fits SetTable.fill
    dsimp only
    rw [insert_size _ _ _ b1, insert_size _ _ _ hp, h3]
    simp
    rcases h7 with ⟨a, b⟩ | ⟨a, _⟩ <;> omega
  have hper : (ksOf (SetTable.insertAt es (SetTable.below t.place slot) (hashInt (k : Int), Value.int (k : Int) tk))).Perm (k :: ksOf es) := by
    unfold ksOf
    rw [he1, List.map_append, List.map_cons]
    have : keyN (hashInt (k : Int), Value.int (k : Int) tk) = k := rfl
    rw [this]
    refine List.perm_middle.trans (List.Perm.cons k ?_)
    rw [← List.map_append, List.take_append_drop]
  refine ⟨SetTable.insertAt es (SetTable.below t.place slot) (hashInt (k : Int), Value.int (k : Int) tk), (t.put slot).1, ?_, by rw [hput]; exact h1, by rw [hput], by rw [hput], ?_, insert_size _ _ _ hp, ?_, ?_, ?_, ?_⟩
  · unfold layNew
    rw [hs2]
    dsimp only
    show (_, SetTable.orStandIn (t.put slot).1 _, false, !(t.put slot).1.fits _) = _
    have h9 : (t.put slot).2 = SetTable.below t.place slot := rfl
    rw [h9, hfit]
    unfold SetTable.orStandIn
    rw [if_pos hfit]
    rfl
  · rw [hput]; dsimp only; rw [insert_size _ _ _ b1, insert_size _ _ _ hp, h3]
  · rw [hput]; exact insert_rises h4 hs1
  · exact hper.nodup_iff.mpr (List.nodup_cons.mpr ⟨hn, h5⟩)
  · intro c hc
    rcases List.mem_cons.mp (hper.mem_iff.mp hc) with rfl | hc
    · exact hk
    · exact h6 c hc
  · intro hm
    obtain rfl := hs3 hm
    rw [hput]
    dsimp only
    rw [hp1]
    unfold ksOf
    rw [he1, List.map_append, List.map_cons, List.map_take, List.map_drop]
    rcases h7 with ⟨a, _⟩ | ⟨_, a⟩
    · rw [hm] at a; cases a
    · rw [a]
      rfl
theorem store_set {h : Heap} {a : Addr} {o : Obj} {es : Array (Int × Value)} {ep : Nat} {t : SetTable} (ho : h.get? a = some o) (hex : o.ExactSet) (hd : o.data = .set es ep t) (es' : Array (Int × Value)) (t' : SetTable) :
    ∃ o', (h.update a (Obj.putSet es' t')).get? a = some o' ∧ o'.ExactSet ∧ ∃ ep', o'.data = .set es' ep' t' := by
  have hg : (h.update a (Obj.putSet es' t')).get? a = some { o with data := .set es' (ep + 1) t' } := by
    have := Heap.get?_update_self (Obj.putSet es' t') ho (by rw [putSet_of es' t' hd]; rfl)
    rw [putSet_of es' t' hd] at this; exact this
  exact ⟨_, hg, hex, ep + 1, rfl⟩
theorem add_set {a : Addr} {o : Obj} {k : Nat} {tk : Tok} {ds : List Nat} {Q : Bool → Shared → Prop} (ho : s.heap.get? a = some o) (hS : SetLO prog w o ds) (hk : k < 16)
    (h : ∀ b h' o', Heap.SameBut a s.heap h' → h'.get? a = some o' → SetLO prog w o' (if k ∈ ds then ds else k :: ds) → Q b { s with heap := h' }) :
    wpAny (model prog w) A (setAddHashed a (.int (k : Int) tk) ((intKind prog w).hash (k : Int))) Q E s := by
  have hS' := hS
  refine pack fun G9 hG9 => ?_
  obtain ⟨hex, es, ep, t, hd, hel, h0, hp, hL, hl⟩ := hS
  refine hG9 ?_
  clear hG9
  have hkey := intKind_is prog w (k : Int) tk
  have hsc : (Value.int (k : Int) tk).scannable = true := rfl
  have hf := hL.fits
  have hs16 := hL.size
  have hb : es.size < scanBound := by unfold scanBound; omega
  have hmem : k ∈ ds ↔ ∃ e ∈ es.toList, (intKind prog w).is (k : Int) e.2 = true := by rw [elem_is hel h0, ← hp.mem_iff]
  unfold setAddHashed setAddHashedIn
  refine wpAny_holding (wpAny_bind (wpAny_setState_of ho hd hf ?_))
  dsimp only
  rw [byScan_of hsc hb hel]
  simp only [↓reduceIte]
  unfold setAddByScan
  refine wpAny_bind ?_
  refine wpAny_bind (wpAny_rule ?_)
  refine wpAny_bind (wpAny_setScan_of hkey ho hd hf hel ?_)
  cases hf9 : List.findIdx? (fun e => (intKind prog w).is (k : Int) e.2) es.toList with
  | some j =>
    dsimp only
    refine pack fun G9 hG9 => ?_
    obtain ⟨hj, hpj, _⟩ := List.findIdx?_eq_some_iff_getElem.mp hf9
    refine hG9 ?_
    clear hG9
    have hin : k ∈ ds := hmem.mpr ⟨es.toList[j], List.getElem_mem hj, hpj⟩
    refine wpAny_pure (wpAny_pure ?_)
    exact h false s.heap o (Heap.SameBut.refl a s.heap) ho (by rw [if_pos hin]; exact hS')
  | none =>
    dsimp only
    have hout : k ∉ ds := fun q => by
      refine pack fun G9 hG9 => ?_
      obtain ⟨e, he, hpe⟩ := hmem.mp q
      refine hG9 ?_
      clear hG9
      have := List.findIdx?_eq_none_iff.mp hf9 e he
      rw [hpe] at this; cases this
    rw [if_neg hout] at h
    have hperm := layNew_perm t es (hashInt (k : Int)) (.int (k : Int) tk)
    have hled := layNew_led t es (hashInt (k : Int)) (.int (k : Int) tk)
    refine pack fun G9 hG9 => ?_
    obtain ⟨es1, t1, hLn, g1, g2, g3, g4, g5, g6, g7, g8, g9⟩ := lay_one hL (tk := tk) hk (fun q => hout (hp.mem_iff.mp q))
    refine hG9 ?_
    clear hG9
    rw [hLn] at hperm hled
    dsimp only at hperm hled
    rw [Array.toList_push] at hperm
    show wpAny _ _ _ _ _ _
    have hhash : (intKind prog w).hash (k : Int) = hashInt (k : Int) := rfl
    rw [hhash, hLn]
    dsimp only
    have hel1 : ElemsOf (intKind prog w) es1.toList := (hel.push hkey hsc).perm hperm
    have h01 : ∀ e ∈ es1.toList, 0 ≤ intOf e.2 := fun e he => by
      rcases List.mem_append.mp (hperm.mem_iff.mp he) with he | he
      · exact h0 e he
      · rw [List.mem_singleton.mp he]; exact Int.natCast_nonneg k
    have hp1 : (ksOf es1).Perm (k :: ds) := by
      refine (hperm.map _).trans ?_
      rw [List.map_append]
      exact List.perm_append_comm.trans (hp.cons k)
    have hs1 : es1.size ≤ 16 := by
      have := few g7 g8
      rwa [List.length_map, Array.length_toList] at this
    have hb1 : es1.size < scanBound := by unfold scanBound; omega
    refine wpAny_bind (wpAny_pure ?_)
    rw [g1]
    simp only [↓reduceIte]
    refine wpAny_bind ?_
    rw [hashByValue_scannable 8 hsc]
    refine wpAny_pure ?_
    show wpAny _ _ _ _ _ _
    have hpk : plainKind (.int (k : Int) tk) = true := rfl
    rw [hpk]
    simp only [↓reduceIte]
    refine wpAny_bind (wpAny_storeSet_of ho hd ?_ (fits_of_scanBound hb1))
    refine pack fun G9 hG9 => ?_
    obtain ⟨o1, ho1, hex1, ep1, hd1⟩ := store_set ho hex hd es1 t1
    refine hG9 ?_
    clear hG9
    have hsb1 := Heap.SameBut.update s.heap a (Obj.putSet es1 t1)
    have htf : t1.tooFull = (if t.mask = 31 then decide (93 ≤ es1.size * 5) else decide (21 ≤ es1.size * 5)) := by
      unfold SetTable.tooFull SetTable.fill
      rw [g2, g3, g4]
      rcases hL.2.2.2.2.2.2 with ⟨m, _⟩ | ⟨m, _⟩ <;> (rw [m]; simp)
    simp only [Bool.not_false, Bool.true_and]
    rcases hL.2.2.2.2.2.2 with ⟨hm, hs4⟩ | ⟨hm, hpl⟩
    · rw [if_neg (by omega)] at htf
      by_cases h5 : es1.size = 5
      · rw [htf, decide_eq_true (by omega)]
        simp only [↓reduceIte]
        have hw : SetTable.sizeAbove (SetTable.grown es1.size) = 32 := by rw [h5]; decide
        have hled2 := relay_led t1 es1 (SetTable.grown es1.size)
        have hris2 := relay_rises t1 es1 (SetTable.grown es1.size)
        have hper2 := relayAll_perm t1 es1 (SetTable.grown es1.size)
        obtain ⟨es2, t2, e2, r1, r2, r3, r4, r5⟩ := relay_own (t := t1) (es := es1) hw (fun c hc => Nat.lt_of_lt_of_le (g8 c hc) (by decide)) g7 (by rw [List.length_map, Array.length_toList]; omega) (elems_hash hel1 h01) keyN rfl
        rw [e2] at hled2 hris2 hper2 ⊢
        dsimp only at hled2 hris2 hper2 ⊢
        have hs2 : es2.size = es1.size := by rw [← Array.length_toList, hper2.length_eq, Array.length_toList]
        refine wpAny_bind (wpAny_pure ?_)
        refine wpAny_bind (wpAny_storeSet_of ho1 hd1 ?_ (fits_of_scanBound (by omega)))
        refine pack fun G9 hG9 => ?_
        obtain ⟨o2, ho2, hex2, ep2, hd2⟩ := store_set ho1 hex1 hd1 es2 t2
        refine hG9 ?_
        clear hG9
        refine wpAny_pure ?_
        dsimp only
        refine wpAny_pure (h _ _ _ (hsb1.trans (Heap.SameBut.update _ a _)) ho2 ⟨hex2, es2, ep2, t2, hd2, hel1.perm hper2, fun e he => h01 e (hper2.mem_iff.mp he), (hper2.map _).trans hp1, ⟨r3.trans g1, r2, ?_, hris2, (hper2.map keyN).nodup_iff.mpr g7, fun c hc => g8 c ((hper2.map keyN).mem_iff.mp hc), .inr ⟨r1, r4.trans r5.symm⟩⟩, hled2.trans (hled.trans hl)⟩)
        rw [← Array.length_toList, r4, ← r5, List.length_map, Array.length_toList]
      · rw [htf, decide_eq_false (by omega)]
        simp only [Bool.false_eq_true, ↓reduceIte]
        refine wpAny_pure ?_
        dsimp only
        exact wpAny_pure (h _ _ _ hsb1 ho1 ⟨hex1, es1, ep1, t1, hd1, hel1, h01, hp1, ⟨g1, g2, g4, g6, g7, g8, .inl ⟨g3.trans hm, by omega⟩⟩, hled.trans hl⟩)
    · rw [if_pos hm, decide_eq_false (by omega)] at htf
      rw [htf]
      simp only [Bool.false_eq_true, ↓reduceIte]
      refine wpAny_pure ?_
      dsimp only
      exact wpAny_pure (h _ _ _ hsb1 ho1 ⟨hex1, es1, ep1, t1, hd1, hel1, h01, hp1, ⟨g1, g2, g4, g6, g7, g8, .inr ⟨g3.trans hm, g9 hm⟩⟩, hled.trans hl⟩)
end
end
section
set_option maxRecDepth 100000
section
variable {prog : Program} {w : World} {A : Around} {R : Result → Shared → Prop} {I : Addr} {fp wr : List Addr} {G : Array GenState → Array GenState → Prop} {n : Nat} {P : Nat → Value → Prop} {St : Nat → Shared → Prop}
theorem upd_loop (W : WalksS prog w A.in1 I fp wr G n P St) (S : Addr) (hSf : S ∉ fp) (val : Nat → Nat) (hval : ∀ i v, P i v → ∃ t, v = .int (val i : Int) t) (hb : ∀ i, i < n → val i < 16) :
    ∀ (k i : Nat) (s : Shared) (o : Obj) (ds : List Nat), n - i = k → i ≤ n → St i s → s.heap.get? S = some o → SetLO prog w o ds → (∀ x, x ∈ ds ↔ ∃ j, j < i ∧ val j = x) →
      (∀ s' o' ds', Moved (S :: wr) G s s' → s'.heap.get? S = some o' → SetLO prog w o' ds' → (∀ x, x ∈ ds' ↔ ∃ j, j < n ∧ val j = x) → R (.ok (.ret .none)) s') →
      codeAny (model prog w) A (.builtin "set.update.loop" ⟨[.ref S, .ref I], []⟩) R s := by
  have hSw : S ∉ wr := fun h => hSf (W.sub _ h)
  have hsub : ∀ b ∈ wr, b ∈ S :: wr := fun b hb => List.mem_cons_of_mem _ hb
  intro k
  induction k with
  | zero =>
    intro i s o ds hk hi hst ho hS hmem hR
    obtain rfl : i = n := by omega
    refine codeAny_builtin F.entry_set_update_loop ?_
    rw [Around.under_plainId F.plain_set_update_loop _]
    show wpAny _ A.in1 (pyNext (.ref I) >>= _) _ _ s
    refine wpAny_bind (W.done s _ _ hst fun s' hm => ?_)
    show wpAny _ A.in1 (ret Value.none) _ _ s'
    exact wpAny_pure (hR s' o ds (hm.mono hsub) (hm.heap S _ hSw ho) hS hmem)
  | succ k ih =>
    intro i s o ds hk hi hst ho hS hmem hR
    have hlt : i < n := by omega
    refine codeAny_builtin F.entry_set_update_loop ?_
    rw [Around.under_plainId F.plain_set_update_loop _]
    show wpAny _ A.in1 (pyNext (.ref I) >>= _) _ _ s
    refine wpAny_bind (W.item i s _ _ hlt hst fun v s' hP hst' hm => ?_)
    obtain ⟨t, rfl⟩ := hval i v hP
    show wpAny _ A.in1 (holding [Value.int (val i : Int) t] (setAdd S (.int (val i : Int) t)) >>= _) _ _ s'
    refine wpAny_bind (wpAny_holding ?_)
    unfold setAdd
    refine wpAny_holding ?_
    refine wpAny_bind ((intKind prog w).pyHash (k := (val i : Int)) (intKind_is _ _ _ _) ?_)
    refine add_set (s := { s' with toks := s'.toks + 1 }) (hm.heap S _ hSw ho) hS (hb i hlt) fun b h' o' hsb ho' hS' => ?_
    refine wpAny_pure ⟨plainId_quiet F.plain_set_update_loop _, ih (i + 1) _ o' _ (by omega) hlt (W.frame _ s' _ _ hst' (Nat.le_succ _) fun b hb o e => ?_) ho' hS' ?_ fun s'' o'' ds'' hm'' ho'' hS'' hmem'' => ?_⟩
    · rw [hsb.2 b (fun h : b = S => hSf (by rw [← h]; exact hb))]; exact e
    · intro x
      have h1 : (∃ j, j < i + 1 ∧ val j = x) ↔ (x ∈ ds ∨ x = val i) := by
        rw [hmem]
        constructor
        · rintro ⟨j, hj, e⟩
          rcases Nat.lt_or_eq_of_le (Nat.le_of_lt_succ hj) with h | rfl
          · exact .inl ⟨j, h, e⟩
          · exact .inr e.symm
        · rintro (⟨j, hj, e⟩ | e)
          · exact ⟨j, by omega, e⟩
          · exact ⟨i, by omega, e.symm⟩
      rw [h1]
      split
      · rename_i hin
        exact ⟨.inl, fun h => h.elim id fun e => e ▸ hin⟩
      · rw [List.mem_cons]; exact or_comm
    · refine hR s'' o'' ds'' (Moved.trans W.gtrans ((hm.mono hsub).then_heap (Nat.le_succ _) fun b o hb e => ?_) hm'') ho'' hS'' hmem''
      rw [hsb.2 b (fun h : b = S => hb (by rw [h]; exact List.mem_cons_self))]; exact e
end
section
variable {prog : Program} {w : World} {A : Around} {E : Value → Shared → Prop} {s : Shared}
theorem new_set (a : Value) {Q₁ : Value → Shared → Prop}
    (h : Q₁ (.ref s.heap.objs.size) { s with heap := s.heap.push { cls := .type "set", dict := none, data := .set #[] 0 (.fresh 0 0 (!(w.params.followText "set-order"))) } }) :
    codeAny (model prog w) A (.call (.builtin "set.__new__") ⟨[.type "set", a], []⟩) (wants Q₁ E) s := by
  refine codeAny_of_tree ?_
  show wpAny _ A.in1 (do checkBuiltinCall "set.__new__" ⟨[.type "set", a], []⟩; again (.builtin "set.__new__" ⟨[.type "set", a], []⟩)) _ _ s
  refine wpAny_bind (wpAny_of_eq (PySem.F.newCall_set_1 a) (wpAny_pure ⟨plainId_quiet PySem.F.plain_set_new _, codeAny_builtin PySem.F.entry_set_new ?_⟩))
  rw [Around.under_plainId PySem.F.plain_set_new _]
  unfold Builtin.«set.__new__» Builtin.Frozenset.newClass
  have hsub := sub_set_self
  obtain ⟨hp, g, d, tk, os⟩ := s
  dsimp only
  wp_walk
  refine wpAny_askSetting (wpAny_pure ?_)
  dsimp only
  simp only [newObj]
  refine wpAny_bind (wpAny_alloc (wpAny_pure ?_))
  exact wpAny_pure h
end
end
section
set_option maxRecDepth 100000
theorem fresh_set (prog : Program) (w : World) : SetLO prog w { cls := .type "set", dict := none, data := .set #[] 0 (.fresh 0 0 (!(w.params.followText "set-order"))) } [] :=
  ⟨⟨rfl, rfl, rfl⟩, #[], 0, _, rfl, fun e he => by simp at he, fun e he => by simp at he, by simp [ksOf], ⟨rfl, rfl, rfl, .nil, .nil, by simp [ksOf], .inl ⟨rfl, Nat.zero_le _⟩⟩, rfl⟩
section
variable {prog : Program} {w : World} {A : Around} {E : Value → Shared → Prop} {s : Shared}
set_option maxHeartbeats 3200000 in
theorem set_of_list {l : Addr} {items : Array Value} {ns : List Nat} {Q : Value → Shared → Prop} (hh : A.handled = none) (hl : s.heap.IsList l items) (hi : IntsAre items.toList (ns.map Int.ofNat)) (hb : ∀ x ∈ ns, x < 16)
    (h : ∀ (h' : Heap) (tk : Nat) (o : Obj) (ds : List Nat), h'.get? s.heap.objs.size = some o → SetLO prog w o ds → (∀ x, x ∈ ds ↔ x ∈ ns) → (∀ b o, b < s.heap.objs.size → s.heap.get? b = some o → h'.get? b = some o) → Q (.ref s.heap.objs.size) { s with heap := h', toks := tk }) :
    wpAny (model prog w) A (call (.type "set") [.ref l]) Q E s := by
  obtain ⟨c, tl, hmro⟩ := PySem.F.called_set.mro
  have hmade := PySem.F.called_set.made
  have hsub := PySem.F.called_set.sub
  refine wpAny_call (codeAny_of_tree ?_)
  show wpAny _ _ (callAny (.type "set") _) _ _ _
  refine wpAny_pure ⟨Code.quiet_builtin _ (by decide +kernel), codeAny_builtin PySem.F.entry_type_call ?_⟩
  rw [Around.under_plain (weight_type_call_type "set" [.ref l] []) rfl]
  have h1 := PySem.F.called_set.notType
  have h2 := PySem.F.called_set.canCreate
  have hct := PySem.F.typeCall_set_1 (.ref l)
  repeat (any_goals (first | assumption | wp_step))
  generalize hled : (!(w.params.followText "set-order")) = led
  refine codeAny_mono (new_set (.ref l) (E := E) (Q₁ := fun obj s₁ => obj = .ref s.heap.objs.size ∧ s₁ = { s with heap := s.heap.push { cls := .type "set", dict := none, data := .set #[] 0 (.fresh 0 0 led) } }) (by rw [hled]; exact ⟨rfl, rfl⟩)) fun r s₁ hr => ?_
  cases r with
  | error e => exact hr
  | ok fl =>
    cases fl with
    | ret obj =>
      obtain ⟨rfl, rfl⟩ := hr
      have hS : (s.heap.push { cls := .type "set", dict := none, data := .set #[] 0 (.fresh 0 0 led) }).get? s.heap.objs.size = some { cls := .type "set", dict := none, data := .set #[] 0 (.fresh 0 0 led) } := Heap.get?_push_size _ rfl
      have hT : Shared.TypeIs { s with heap := s.heap.push { cls := .type "set", dict := none, data := .set #[] 0 (.fresh 0 0 led) } } (.ref s.heap.objs.size) "set" := ⟨_, hS, rfl⟩
      have hli := PySem.F.called_set.init.lookup
      have hbi := PySem.F.called_set.init.bind (.ref s.heap.objs.size)
      repeat (any_goals (first | assumption | wp_step))
      refine codeAny_mono (codeAny_call_builtin (R := wants (fun r s₂ => r = .none ∧ ∃ h' tk o ds, s₂ = { s with heap := h', toks := tk } ∧ h'.get? s.heap.objs.size = some o ∧ SetLO prog w o ds ∧ (∀ x, x ∈ ds ↔ x ∈ ns) ∧
          (∀ b o, b < s.heap.objs.size → s.heap.get? b = some o → h'.get? b = some o)) E) PySem.F.called_set.init.plain PySem.F.entry_set_init (check_set_init_1 hT ?_)) fun r₂ s₂ hr₂ => ?_
      · obtain ⟨ol, hol, hcl, nl, hdl⟩ := hl
        obtain ⟨ocls, odict, odata, oslots⟩ := ol
        simp only at hcl hdl
        subst hcl; subst hdl
        have hol' : (s.heap.push { cls := .type "set", dict := none, data := .set #[] 0 (.fresh 0 0 led) }).get? l = some { cls := .type "list", dict := odict, data := .seq items nl, slots := oslots } := Heap.get?_push_of_some _ hol
        have hsls := PySem.F.sub_list_set
        have hslf := PySem.F.sub_list_frozenset
        have hne : (Value.type "list" == Value.type "dict") = false := by decide
        have hl1 : (s.heap.push { cls := .type "set", dict := none, data := .set #[] 0 (.fresh 0 0 led) }).IsList l items := ⟨_, hol', rfl, nl, rfl⟩
        unfold Builtin.«set.__init__» noKeywords Builtin.Frozenset.updateFrom
        generalize hPI : pyIter = PI
        wp_walk
        subst hPI
        refine wpAny_pyIter_list hl1 ?_
        refine wpAny_bind (wpAny_runValue ?_)
        have hlS : l < s.heap.objs.size := Heap.lt_size hol
        have hh3 : A.in1.in1.in1.handled = none := by simp [hh]
        have hneI : l ≠ (s.heap.push { cls := .type "set", dict := none, data := .set #[] 0 (.fresh 0 0 led) }).objs.size := by
          rw [Heap.size_push]; exact Nat.ne_of_lt (Nat.lt_succ_of_lt hlS)
        have hSf : s.heap.objs.size ∉ [(s.heap.push { cls := .type "set", dict := none, data := .set #[] 0 (.fresh 0 0 led) }).objs.size, l] := by
          rw [Heap.size_push]
          simp only [List.mem_cons, List.not_mem_nil, or_false, not_or]
          exact ⟨Nat.ne_of_lt (Nat.lt_succ_self _), Nat.ne_of_gt hlS⟩
        have hlen : items.size = ns.length := by have := hi.length; rwa [Array.length_toList, List.length_map] at this
        have hval : ∀ (i : Nat) (v : Value), items[i]? = some v → ∃ t, v = .int (((fun i => ns.getD i 0) i : Nat) : Int) t := fun i v hv => by
          have h1 : items.toList[i]? = some v := by rw [Array.getElem?_toList]; exact hv
          have h2 : i < ns.length := by have := (List.getElem?_eq_some_iff.mp h1).1; rw [Array.length_toList] at this; omega
          obtain ⟨t, ht⟩ := hi.get i (Int.ofNat ns[i]) (by rw [List.getElem?_map, List.getElem?_eq_getElem h2]; rfl)
          rw [h1] at ht
          refine ⟨t, ?_⟩
          dsimp only
          rw [List.getD_eq_getElem?_getD, List.getElem?_eq_getElem h2]
          exact Option.some.inj ht
        refine upd_loop ((Walks.list hh3 _ l hneI items).toS) s.heap.objs.size hSf (fun i => ns.getD i 0) hval (fun i hi9 => hb _ (by rw [List.getD_eq_getElem?_getD, List.getElem?_eq_getElem (by omega)]; exact List.getElem_mem _)) (items.size - 0) 0 _ { cls := .type "set", dict := none, data := .set #[] 0 (.fresh 0 0 led) } [] (by omega) (Nat.zero_le _)
          ⟨⟨_, Heap.get?_push_size _ rfl, rfl, rfl⟩, (hl1.push _)⟩ (Heap.get?_push_of_some _ hS) (by rw [← hled]; exact fresh_set prog w) (by simp) ?hR
        case hR =>
          intro s' o' ds' hm ho' hS' hmem'
          obtain ⟨h', g', d', tk', os'⟩ := s'
          have eg : g' = s.gens := hm.gens
          have ed : d' = s.drawn := hm.drawn
          have eo : os' = s.os := hm.os
          subst eg; subst ed; subst eo
          show wpAny _ _ _ _ _ _
          refine wpAny_pure ?_
          show wpAny _ _ (ret Value.none) _ _ _
          refine wpAny_pure ⟨rfl, h', tk', o', ds', rfl, ho', hS', fun x => ?_, fun b o hb e => ?_⟩
          · rw [hmem', List.mem_iff_getElem?]
            constructor
            · rintro ⟨j, hj, e⟩
              refine ⟨j, ?_⟩
              rw [← e, List.getD_eq_getElem?_getD, List.getElem?_eq_getElem (by omega)]
              rfl
            · rintro ⟨j, e⟩
              have hj := (List.getElem?_eq_some_iff.mp e).1
              refine ⟨j, by omega, ?_⟩
              rw [List.getD_eq_getElem?_getD, e]
              rfl
          · have hb1 : b ≠ s.heap.objs.size := Nat.ne_of_lt hb
            have hb2 : b ≠ (s.heap.push { cls := .type "set", dict := none, data := .set #[] 0 (.fresh 0 0 led) }).objs.size := by
              rw [Heap.size_push]; exact Nat.ne_of_lt (Nat.lt_succ_of_lt hb)
            exact hm.heap b o (by simp only [List.mem_cons, List.not_mem_nil, or_false, not_or]; exact ⟨hb1, hb2⟩) (Heap.get?_push_of_some _ (Heap.get?_push_of_some _ e))
      · cases r₂ with
        | error e => exact hr₂
        | ok fl₂ =>
          cases fl₂ with
          | ret r =>
            obtain ⟨rfl, h', tk, o', ds', rfl, ho', hS', hmem', hk'⟩ := hr₂
            repeat (any_goals (first | assumption | wp_step))
            exact h _ _ _ _ ho' hS' hmem' hk'
          | _ => exact hr₂.elim
    | _ => exact hr.elim
end
end
section
set_option maxRecDepth 100000
theorem slot_setiter_next : Slot "set_iterator" "__next__" "set_iterator.__next__" :=
  .of (owner := "set_iterator") (n := "__next__") (by rw [typeLookup_type, builtinLookup_eq_fast]; kernel_rfl) (by decide +kernel) (by decide +kernel) (by decide +kernel)
    (by first | exact .inl (by decide +kernel) | exact .inr (by decide +kernel)) (by rw [isSubtype_type]; kernel_rfl)
theorem entry_setiter_next : entryFor table "set_iterator.__next__" = some Builtin.«set_iterator.__next__» := entryFor_of_tree (by kernel_rfl)
theorem args_setiter_next (a : Value) : argsOk "set_iterator.__next__" ⟨[a], []⟩ := by unfold argsOk; kernel_rfl
theorem entry_set_iter : entryFor table "set.__iter__" = some Builtin.«frozenset.__iter__» :=
  entryFor_alias (id' := "frozenset.__iter__") (by kernel_rfl) rfl (by decide +kernel) (by kernel_rfl)
theorem erase_perm {α : Type} : ∀ (l : List α) (i : Nat) (h : i < l.length), (l[i] :: l.eraseIdx i).Perm l
  | a :: r, 0, _ => .refl _
  | a :: r, i + 1, h => by
    rw [List.getElem_cons_succ, List.eraseIdx_cons_succ]
    exact (List.Perm.swap _ _ _).trans ((erase_perm r i (by simpa using h)).cons a)
theorem pick_perm {α : Type} (next : Nat → Nat) : ∀ (fuel k : Nat) (left : List α) (out : Array α), left.length ≤ fuel → (pickOrder.go next fuel k left out).toList.Perm (out.toList ++ left)
  | 0, k, left, out, h => by
    have : left = [] := List.length_eq_zero_iff.mp (by omega)
    subst this
    rw [pickOrder.go, List.append_nil]
  | fuel + 1, k, left, out, h => by
    rw [pickOrder.go]
    rcases Nat.eq_zero_or_pos left.length with h0 | h0
    · have : left = [] := List.length_eq_zero_iff.mp h0
      subst this
      simp
    · have hlt : next k % left.length < left.length := Nat.mod_lt _ h0
      rw [List.getElem?_eq_getElem hlt]
      dsimp only
      refine (pick_perm next fuel (k + 1) _ _ (by rw [List.length_eraseIdx_of_lt hlt]; omega)).trans ?_
      rw [Array.toList_push, List.append_assoc]
      exact List.Perm.append_left _ (erase_perm _ _ hlt)
theorem pickOrder_perm {α : Type} (next : Nat → Nat) (xs : Array α) : (pickOrder next xs).toList.Perm xs.toList := by
  unfold pickOrder
  have := pick_perm next xs.size 0 xs.toList #[] (by simp)
  simpa using this
end
section
set_option maxRecDepth 100000
noncomputable def seqOf (w : World) (S : Addr) (es : Array (Int × Value)) (ep : Nat) : List Value := if w.params.followText "set-order" = true then (pickOrder (w.params.setOrder S ep) es).toList.map (·.2) else es.toList.map (·.2)
theorem seq_perm (w : World) (S : Addr) (es : Array (Int × Value)) (ep : Nat) : (seqOf w S es ep).Perm (es.toList.map (·.2)) := by
  unfold seqOf
  split
  · exact (pickOrder_perm _ _).map _
  · exact .refl _
theorem seq_len (w : World) (S : Addr) (es : Array (Int × Value)) (ep : Nat) : (seqOf w S es ep).length = es.size := by
  rw [(seq_perm w S es ep).length_eq, List.length_map, Array.length_toList]
noncomputable def slotAt (t : SetTable) (i : Nat) : Nat := if i = 0 then 0 else t.place.getD (i - 1) 0 + 1
section
variable {prog : Program} {w : World} {A : Around} {E : Value → Shared → Prop} {s : Shared}
theorem setNext_of {S : Addr} {o : Obj} {es : Array (Int × Value)} {ep : Nat} {t : SetTable} {f i : Nat} {Q : Option (Value × Nat) → Shared → Prop} (ho : s.heap.get? S = some o) (hd : o.data = .set es ep t) (hL : Lies es t) (hl : t.led = !(w.params.followText "set-order"))
    (hf : w.params.followText "set-order" = false → f = slotAt t i)
    (hi : i ≤ es.size) (h1 : ∀ x f', (seqOf w S es ep)[i]? = some x → (w.params.followText "set-order" = false → f' = slotAt t (i + 1)) → Q (some (x, f')) s) (h0 : i = es.size → Q none s) : wpAny (model prog w) A (setNext S f i ep) Q E s := by
  unfold setNext
  refine wpAny_bind (wpAny_setState_of ho hd hL.fits ?_)
  dsimp only
  unfold setsByText
  refine wpAny_bind (wpAny_bind (wpAny_askSetting (wpAny_pure ?_)))
  show wpAny _ _ (if (w.params.followText "set-order") = true then _ else _) _ _ _
  have hpl : t.plain = true := hL.1
  have hnd : ¬ ((!t.plain && decide (es.size > 1)) = true) := by rw [hpl]; simp
  cases hb : w.params.followText "set-order" with
  | true =>
    have hseq : seqOf w S es ep = (pickOrder (w.params.setOrder S ep) es).toList.map (·.2) := by unfold seqOf; rw [if_pos hb]
    rw [if_pos rfl]
    refine wpAny_ite_split (fun hab => absurd hab (by simp)) (fun _ => ?_)
    refine wpAny_bind ?_
    unfold setWalk setsByText
    refine wpAny_bind (wpAny_setState_of ho hd hL.fits ?_)
    dsimp only
    refine wpAny_bind (wpAny_bind (wpAny_askSetting (wpAny_pure ?_)))
    show wpAny _ _ (if (w.params.followText "set-order") = true then _ else _) _ _ _
    rw [if_pos hb]
    refine wpAny_bind (wpAny_askSetting (wpAny_pure ?_))
    refine wpAny_pure ?_
    show Q (((pickOrder (w.params.setOrder S ep) es)[i]?).map _) s
    have hlen := (pickOrder_perm (w.params.setOrder S ep) es).length_eq
    rw [Array.length_toList, Array.length_toList] at hlen
    rcases Nat.lt_or_ge i es.size with hlt | hge
    · rw [Array.getElem?_eq_getElem (by omega)]
      refine h1 _ f ?_ (fun q => by rw [hb] at q; cases q)
      rw [hseq, List.getElem?_map, Array.getElem?_toList, Array.getElem?_eq_getElem (by omega)]
      rfl
    · rw [Array.getElem?_eq_none (by omega)]
      exact h0 (by omega)
  | false =>
    have hseq : seqOf w S es ep = es.toList.map (·.2) := by unfold seqOf; rw [if_neg (by rw [hb]; exact Bool.false_ne_true)]
    rw [if_neg Bool.false_ne_true]
    refine wpAny_ite_split (fun hab => absurd hab hnd) (fun _ => ?_)
    refine wpAny_bind ?_
    show wpAny _ _ (if (!t.led && !es.isEmpty) = true then unsupported _ else pure ()) _ _ _
    rw [if_neg (by rw [hl, hb]; simp)]
    refine wpAny_pure ?_
    have hfe := hf hb
    have hbel : SetTable.below t.place f = i := by
      rw [hfe]
      unfold slotAt
      split
      · rename_i h; rw [h]; exact below_first hL.2.2.2.1
      · rename_i h
        rw [below_next hL.2.2.2.1 (by rw [hL.2.2.1]; omega)]
        omega
    have hps : t.place.size = es.size := hL.2.2.1
    refine wpAny_pure ?_
    rw [hbel]
    rcases Nat.lt_or_ge i es.size with hlt | hge
    · rw [Array.getElem?_eq_getElem hlt, Array.getElem?_eq_getElem (show i < t.place.size by omega)]
      refine h1 _ _ ?_ (fun _ => ?_)
      · rw [hseq, List.getElem?_map, Array.getElem?_toList, Array.getElem?_eq_getElem hlt]
        rfl
      · unfold slotAt
        rw [if_neg (by omega), Nat.add_sub_cancel, Array.getD_eq_getD_getElem?, Array.getElem?_eq_getElem (show i < t.place.size by omega)]
        rfl
    · rw [Array.getElem?_eq_none (show es.size ≤ i from hge)]
      exact h0 (by omega)
end
end
section
set_option maxRecDepth 100000
noncomputable def sitO (f i : Nat) (S : Addr) (n ep : Nat) : Obj := { cls := .type "set_iterator", dict := none, data := .fields #[.int (f : Int) 0, .int (i : Int) 0, .ref S, .int (n : Int) 0, .int (ep : Int) 0], slots := #[] }
theorem slot_setiter_iter : Slot "set_iterator" "__iter__" "set_iterator.__iter__" :=
  .of (owner := "set_iterator") (n := "__iter__") (by rw [typeLookup_type, builtinLookup_eq_fast]; kernel_rfl) (by decide +kernel) (by decide +kernel) (by decide +kernel)
    (by first | exact .inl (by decide +kernel) | exact .inr (by decide +kernel)) (by rw [isSubtype_type]; kernel_rfl)
theorem entry_setiter_iter : entryFor table "set_iterator.__iter__" = some Builtin.«dict_keyiterator.__iter__» :=
  entryFor_alias (id' := "dict_keyiterator.__iter__") (by kernel_rfl) rfl (by decide +kernel) (by kernel_rfl)
theorem args_setiter_iter (a : Value) : argsOk "set_iterator.__iter__" ⟨[a], []⟩ := by unfold argsOk; kernel_rfl
section
variable {prog : Program} {w : World} {A : Around} {E : Value → Shared → Prop} {s : Shared}
noncomputable def SitSt (w : World) (I S : Addr) (o : Obj) (n ep : Nat) (t : SetTable) (i : Nat) (h : Heap) : Prop :=
  (∃ f, h.get? I = some (sitO f i S n ep) ∧ (w.params.followText "set-order" = false → f = slotAt t i)) ∧ h.get? S = some o
theorem walks_set (hh : A.handled = none) {I S : Addr} (hne : S ≠ I) {o : Obj} {es : Array (Int × Value)} {ep : Nat} {t : SetTable} (hd : o.data = .set es ep t) (hL : Lies es t) (hl : t.led = !(w.params.followText "set-order")) :
    Walks prog w A I [I, S] [I] es.size (fun i v => (seqOf w S es ep)[i]? = some v) (SitSt w I S o es.size ep t) where
  sub := fun b hb => by simp at hb; simp [hb]
  frame := fun i h h' st hk => by
    obtain ⟨⟨f, h1, h2⟩, h3⟩ := st
    exact ⟨⟨f, hk I (by simp) _ h1, h2⟩, hk S (by simp) _ h3⟩
  item := fun i s Q E hi st hQ => by
    obtain ⟨⟨f, h1, h2⟩, h3⟩ := st
    have hT : s.TypeIs (.ref I) "set_iterator" := ⟨_, h1, rfl⟩
    unfold pyNext
    refine wpAny_bind (wpAny_attempt (wpAny_callSpecial?_slot (name := PySem.Str.ofString "__next__") hT slot_setiter_next (wpAny_call_entry slot_setiter_next hT entry_setiter_next ?_ (args_setiter_next _))))
    unfold Builtin.«set_iterator.__next__»
    refine wpAny_bind (wpAny_pure ?_)
    refine wpAny_bind (wpAny_fieldsOf h1 rfl ?_)
    dsimp only
    refine wpAny_bind (wpAny_setEntries_of h3 hd hL.fits ?_)
    refine wpAny_ite_split (fun hab => absurd hab (by simp)) (fun _ => ?_)
    refine wpAny_bind ?_
    refine setNext_of (f := f) (i := i) h3 hd hL hl h2 (by omega) (fun x f' hx hf' => ?_) (fun h => by omega)
    dsimp only
    refine wpAny_bind (wpAny_setField_rec h1 (by simp) fun ha ea sa => ?_)
    refine wpAny_bind (wpAny_setField_rec ea (by simp) fun hb eb sb => ?_)
    refine wpAny_pure ⟨x, rfl, wpAny_pure (hQ x hb s.toks hx ⟨⟨f', ?_, hf'⟩, ?_⟩ fun b o' hb' e => ?_)⟩
    · rw [eb]
      simp [sitO, rawInt]
    · exact sb.extBut _ _ hne (sa.extBut _ _ hne h3)
    · have : b ≠ I := fun q => hb' (by simp [q])
      exact sb.extBut _ _ this (sa.extBut _ _ this e)
  done := fun s Q E st hQ => by
    obtain ⟨⟨f, h1, h2⟩, h3⟩ := st
    have hT : s.TypeIs (.ref I) "set_iterator" := ⟨_, h1, rfl⟩
    unfold pyNext
    refine wpAny_bind (wpAny_attempt (wpAny_callSpecial?_slot (name := PySem.Str.ofString "__next__") hT slot_setiter_next (wpAny_call_entry slot_setiter_next hT entry_setiter_next ?_ (args_setiter_next _))))
    unfold Builtin.«set_iterator.__next__»
    refine wpAny_bind (wpAny_pure ?_)
    refine wpAny_bind (wpAny_fieldsOf h1 rfl ?_)
    dsimp only
    refine wpAny_bind (wpAny_setEntries_of h3 hd hL.fits ?_)
    refine wpAny_ite_split (fun hab => absurd hab (by simp)) (fun _ => ?_)
    refine wpAny_bind ?_
    refine setNext_of (f := f) (i := es.size) h3 hd hL hl h2 (Nat.le_refl _) (fun x f' hx hf' => ?_) (fun _ => ?_)
    · have := (List.getElem?_eq_some_iff.mp hx).1
      rw [seq_len] at this
      exact absurd this (Nat.lt_irrefl _)
    dsimp only
    refine wpAny_bind (wpAny_setField_rec h1 (by simp) fun ha ea sa => ?_)
    refine wpAny_bind ?_
    simp only [newExc, newTuple]
    refine wpAny_bind (wpAny_newObj_type ?_ (by size_fits))
    refine wpAny_bind (m := firstArgMember _ _) (wpAny_of_eq (a := Value.none) (by first | rfl | (simp only [firstArgMember]; rfl)) ?_)
    refine wpAny_newObj_type ?_ (by size_fits)
    unfold raiseNew
    refine wpAny_bind (wpAny_handled ?_)
    rw [show A.in1.handled = none from hh]
    refine wpAny_bind (wpAny_pure (wpAny_throw ?_))
    refine wpAny_bind (wpAny_isInstance (T := "StopIteration") (b := true) ⟨_, Heap.get?_push_size _ rfl, rfl⟩ isSubtype_stop ?_)
    refine wpAny_pure (hQ _ s.toks fun b o' hb' e => ?_)
    have : b ≠ I := fun q => hb' (by simp [q])
    exact Heap.get?_push_of_some _ (Heap.get?_push_of_some _ (sa.extBut _ _ this e))
  self := fun i s Q E st hQ => by
    obtain ⟨⟨f, h1, h2⟩, h3⟩ := st
    have hT : s.TypeIs (.ref I) "set_iterator" := ⟨_, h1, rfl⟩
    refine wpAny_pyIter_slot hT slot_setiter_iter (wpAny_call_entry slot_setiter_iter hT entry_setiter_iter ?_ (args_setiter_iter _))
    show wpAny _ _ (ret (.ref I)) _ _ s
    exact wpAny_pure ⟨_, rfl, "set_iterator", _, hT, slot_setiter_next.lookup, hQ⟩
theorem iter_set {S : Addr} {o : Obj} {es : Array (Int × Value)} {ep : Nat} {t : SetTable} {Q : Value → Shared → Prop} (ho : s.heap.get? S = some o) (hex : o.ExactSet) (hd : o.data = .set es ep t) (hL : Lies es t)
    (hQ : Q (.ref s.heap.objs.size) { s with heap := s.heap.push (sitO 0 0 S es.size ep) }) : wpAny (model prog w) A (pyIter (.ref S)) Q E s := by
  have hT : s.TypeIs (.ref S) "set" := ⟨o, ho, hex.1⟩
  refine wpAny_pyIter_slot hT PySem.F.slot_set_iter (wpAny_call_entry PySem.F.slot_set_iter hT entry_set_iter ?_ (PySem.F.args_set_iter_1 _))
  unfold Builtin.«frozenset.__iter__» Builtin.Frozenset.slot0 Builtin.Frozenset.sizeOf
  refine wpAny_bind ?_
  refine wpAny_bind (wpAny_pure ?_)
  unfold Builtin.Frozenset.addrOf
  refine wpAny_pure ?_
  refine wpAny_bind (wpAny_bind (wpAny_setEntries_of ho hd hL.fits (wpAny_pure ?_)))
  refine wpAny_bind ?_
  unfold setDrawn setsByText
  refine wpAny_bind (wpAny_setState_of ho hd hL.fits ?_)
  dsimp only
  refine wpAny_bind (wpAny_bind (wpAny_askSetting (wpAny_pure ?_)))
  refine wpAny_pure ?_
  refine wpAny_ite_split (fun hab => absurd hab ?_) (fun _ => ?_)
  · show ¬ ((!_ && (!t.plain && decide (es.size > 1))) = true)
    rw [hL.1]
    simp
  refine wpAny_bind (wpAny_pure ?_)
  unfold setEpoch
  refine wpAny_bind (wpAny_bind (wpAny_setState_of ho hd hL.fits (wpAny_pure ?_)))
  exact wpAny_bind (wpAny_newObj_type (wpAny_pure ⟨_, rfl, "set_iterator", _, ⟨_, Heap.get?_push_size _ rfl, rfl⟩, slot_setiter_next.lookup, hQ⟩))
end
end
section
set_option maxRecDepth 100000
theorem set_len_look : typeLookup (.type "set") "__len__" = pure (some (.builtin "set.__len__")) := by rw [typeLookup_type, builtinLookup_eq_fast]; kernel_rfl
section
variable {prog : Program} {w : World} {A : Around} {E : Value → Shared → Prop} {s : Shared}
theorem hint_set {r : Addr} {Q : Bool → Shared → Prop} (hT : s.TypeIs (.ref r) "set") (h : Q false s) : wpAny (model prog w) A (Builtin.List.listLengthHint (.ref r)) Q E s := by
  unfold Builtin.List.listLengthHint
  refine wpAny_bind (wpAny_specialOf hT set_len_look ?_)
  generalize hid : ("set.__len__" : String) = id0
  wp_delta
  rw [show splitId id0 = some ("set", "__len__") from by subst hid; decide +kernel]
  subst hid
  refine wpAny_bind (wpAny_isInstance (T := "set") (b := true) hT (by rw [isSubtype_type]; kernel_rfl) ?_)
  refine wpAny_ite_split (fun hab => absurd hab (by decide)) (fun _ => ?_)
  refine wpAny_ite_split (fun _ => ?_) (fun hab => absurd (by decide +kernel) hab)
  refine wpAny_bind (wpAny_typeOf hT ?_)
  exact wpAny_pure h
theorem src_set {S : Addr} {o : Obj} {es : Array (Int × Value)} {ep : Nat} {t : SetTable} (hex : o.ExactSet) (hd : o.data = .set es ep t) (hL : Lies es t) (hl : t.led = !(w.params.followText "set-order")) :
    KdlSrc prog w "set" S S es.size (fun i v => (seqOf w S es ep)[i]? = some v) (fun h => h.get? S = some o) where
  type := fun s h => ⟨o, h, hex.1⟩
  there := fun h e => ⟨Heap.lt_size e, Heap.lt_size e⟩
  keep := fun h h' e k => k S (.inl rfl) o e
  notList := by decide
  notTuple := by decide
  hint := fun A E s Q e h => hint_set ⟨o, e, hex.1⟩ h
  iter := fun A s hh e => ⟨sitO 0 0 S es.size ep, SitSt w s.heap.objs.size S o es.size ep t, fun E Q h => iter_set e hex hd hL h, walks_set hh (Nat.ne_of_lt (Heap.lt_size e)) hd hL hl, ⟨0, Heap.get?_push_size _ rfl, fun _ => rfl⟩, Heap.get?_push_of_some _ e⟩
end
end
section
set_option maxRecDepth 100000
theorem sorted_at {h : Heap} {D : Addr} {vs : List Value} {n : Nat} (out : Array Value) (ho : h.get? D = some (seqObj "list" vs.toArray n)) : (∃ k, (sortedHeap h D vs out).get? D = some (seqObj "list" out k)) ∧ ∀ b o, b ≠ D → h.get? b = some o → (sortedHeap h D vs out).get? b = some o := by
  unfold sortedHeap
  have h1 := get?_update_seq ho (fun _ => #[])
  have h2 := Heap.get?_push_of_some (seqObj "list" #[] 0) (Heap.get?_push_of_some (seqObj "tuple" vs.toArray 0) h1)
  refine ⟨⟨_, get?_update_seq h2 (fun _ => out)⟩, fun b o hb e => ?_⟩
  refine (Heap.get?_update_other _ _ (Ne.symm hb)).trans ?_
  exact Heap.get?_push_of_some _ (Heap.get?_push_of_some _ ((Heap.get?_update_other _ _ (Ne.symm hb)).trans e))
section
variable {prog : Program} {w : World} {A : Around} {E : Value → Shared → Prop} {s : Shared} {g : Heap} {L l : Addr} {m : PySem.Str → Option Value} {news : List (Addr × Obj)} {vs : List Value} {k : Nat} {ns : List Nat}
theorem set_ints {Q : Value → Shared → Prop} (hh : A.handled = none) (F : Fr g L s.heap m) (N : News g L s.heap news) (hm : (l, listOf vs.toArray k) ∈ news) (hI : IntsAre vs (ns.map Int.ofNat)) (hb : ∀ x ∈ ns, x < 16)
    (h : ∀ D h' tk o ds, Fr g L h' m → News g L h' ((D, o) :: news) → (∀ p ∈ news, @LT.lt Nat _ p.1 D) → SetLO prog w o ds → (∀ k, k ∈ ds ↔ k ∈ ns) → Q (.ref D) { s with heap := h', toks := tk }) :
    wpAny (model prog w) A (call (.type "set") [.ref l]) Q E s := by
  refine set_of_list hh (News.isList N hm) (by simpa using hI) hb fun h' tk o ds ho hS hmem hk => ?_
  have hk' : ∀ b o, s.heap.get? b = some o → h'.get? b = some o := fun b o e => hk b o (Heap.lt_size e) e
  refine h _ h' tk o ds (F.keeps hk') (fun p hp => ?_) (fun p hp => Heap.lt_size (N p hp).1) hS hmem
  rcases List.mem_cons.mp hp with rfl | hp
  · exact ⟨ho, Ne.symm (Nat.ne_of_lt F.ns.lt), by
      cases q : g.get? s.heap.objs.size with
      | none => rfl
      | some o' => exact absurd (Heap.lt_size (F.keep _ _ q)) (Nat.lt_irrefl _)⟩
  · exact ⟨hk' _ _ (N p hp).1, (N p hp).2⟩
theorem sorted_set {Q : Value → Shared → Prop} {D : Addr} {o : Obj} {ds : List Nat} (hh : A.handled = none) (F : Fr g L s.heap m) (N : News g L s.heap news) (hm : (D, o) ∈ news) (hS : SetLO prog w o ds)
    (h : ∀ B h' tk out k ns', Fr g L h' m → News g L h' ((B, listOf out.toArray k) :: news) → (∀ p ∈ news, @LT.lt Nat _ p.1 B) → IntsAre out ns' → ns'.Perm (ds.map Int.ofNat) → ns'.Pairwise (· ≤ ·) → Q (.ref B) { s with heap := h', toks := tk }) :
    wpAny (model prog w) A (call (.builtin "sorted") [.ref D]) Q E s := by
  refine pack fun G9 hG9 => ?_
  obtain ⟨hex, es, ep, t, hd, hel, h0, hp, hL, hl⟩ := hS
  refine hG9 ?_
  clear hG9
  have h16 := hL.size
  refine kdu_sorted (src_set (S := D) hex hd hL hl) hh F N (N _ hm).1 (by rw [sizeLine_eq]; omega) fun B h' tk vs F' N' hlt hlen hvs => ?_
  have hvseq : vs = seqOf w D es ep := by
    apply List.ext_getElem?
    intro j
    rcases Nat.lt_or_ge j vs.length with hj | hj
    · rw [List.getElem?_eq_getElem hj]
      exact (hvs j _ (List.getElem?_eq_getElem hj)).symm
    · rw [List.getElem?_eq_none hj, List.getElem?_eq_none (by rw [seq_len]; omega)]
  have hperm := hvseq ▸ seq_perm w D es ep
  have hall : ∀ v ∈ vs, ∃ n t, v = .int n t := fun v hv => by
    refine pack fun G9 hG9 => ?_
    obtain ⟨e, he, rfl⟩ := List.mem_map.mp (hperm.mem_iff.mp hv)
    obtain ⟨n, t, ht, _⟩ := elems_int hel e he
    refine hG9 ?_
    clear hG9
    exact ⟨n, t, ht⟩
  have hI := ints_map hall
  have hkeys : (vs.map intOf).Perm (ds.map Int.ofNat) := by
    refine (hperm.map intOf).trans ?_
    rw [List.map_map]
    have : es.toList.map (intOf ∘ fun e => e.2) = (ksOf es).map Int.ofNat := by
      rw [List.map_map]
      apply List.map_congr_left
      intro e he
      exact (Int.toNat_of_nonneg (h0 e he)).symm
    rw [this]
    exact hp.map _
  have zB := N' _ (.head _)
  have hoB : h'.get? B = some (seqObj "list" vs.toArray 0) := zB.1
  refine wpAny_call_entry slot_list_sort ⟨_, hoB, rfl⟩ entry_list_sort (list_sort_tree hoB hI (by omega) fun out ns' a1 a2 a3 => ⟨_, rfl, ?_⟩) (args_list_sort _)
  refine pack fun G9 hG9 => ?_
  obtain ⟨⟨k, hk⟩, hoth⟩ := sorted_at out hoB
  refine hG9 ?_
  clear hG9
  have Fs : Fr g L (sortedHeap h' B vs out) m := ⟨F'.ns.at' fun o e => hoth L o (Ne.symm zB.2.1) e, fun b o e => hoth b o (fun q => by rw [q, zB.2.2] at e; cases e) (F'.keep b o e), F'.above⟩
  refine h B _ tk out.toList k ns' Fs (fun p hp' => ?_) hlt a1 (a2.trans hkeys) a3
  rcases List.mem_cons.mp hp' with rfl | hp'
  · exact ⟨by simpa using hk, zB.2⟩
  · have z := N' p (.tail _ hp')
    exact ⟨hoth _ _ (Nat.ne_of_lt (hlt p hp')) z.1, z.2⟩
theorem SetLO.nodup {o : Obj} {ds : List Nat} (h : SetLO prog w o ds) : ds.Nodup := by
  refine pack fun G9 hG9 => ?_
  obtain ⟨_, es, ep, t, _, _, _, hp, hL, _⟩ := h
  refine hG9 ?_
  clear hG9
  exact hp.nodup_iff.mp hL.2.2.2.2.1
end
theorem nodup_ofNat : ∀ {ds : List Nat}, ds.Nodup → (ds.map Int.ofNat).Nodup
  | [], _ => .nil
  | a :: r, h => by
    obtain ⟨h1, h2⟩ := List.nodup_cons.mp h
    refine List.nodup_cons.mpr ⟨fun hm => ?_, nodup_ofNat h2⟩
    refine pack fun G9 hG9 => ?_
    obtain ⟨b, hb, e⟩ := List.mem_map.mp hm
    refine hG9 ?_
    clear hG9
    exact h1 (Int.ofNat.inj e ▸ hb)
end
section
local macro_rules | `(tactic| walk_at "execs cons") => `(tactic| k_fold)
local macro_rules | `(tactic| walk_at $s:str) => if ["call builtin:len", "compareOp Eq ref ref", "compareOp NotEq ref ref", "subscriptTail Name Slice ref ref", "subscriptTail Name UnaryOp ref int", "subscriptTail", "call type:set", "call type:set cons nil", "call builtin:sorted", "call ref", "pyIter ref", "exec For", "exec For Name Call cons nil", "exec While", "exec While Compare cons nil", "eval ListComp"].contains s.getString then `(tactic| (refine stopHere ?_)) else Lean.Macro.throwUnsupported
theorem neOf {D a : Addr} {o : Obj} {l : List (Addr × Obj)} (h : ∀ p ∈ l, p.1 ≠ D) (hm : (a, o) ∈ l) : a ≠ D := h _ hm
namespace NFar
noncomputable def G (w : World) (rl : Addr) (rv : List Value) (kr : Nat) (ws : List PySem.Str) (mean : ExcName → Option Value) (mg : PySem.Str → Option Value) (mb : PySem.Str → Option Value) (dp : Nat) (un : Nat) (gd : Option (List Code)) (outer : List Env) (A₀ : Around) (base : Heap) (g : Heap) (L : Addr) (h₁ : Heap) (rest : List (Addr × Obj)) (s : Shared) (tk : Nat) : Prop :=
  (StrsAre rv ws) → (StrsOk ws) → (ws.length < 16) → CellsH w 211 (PySem.Str.ofString "_law_farthest") bd22 sc22 (.ref 210) [(PySem.Str.ofString "row", .ref rl)] 60 600 ([(rl, listOf rv.toArray kr)]) (fun r E' => ∃ l cv k, r = .ref l ∧ IntsAre cv ((cutsFrom (rowOf ws).2 0).map Int.ofNat) ∧ E' = [(l, listOf cv.toArray k), (rl, listOf rv.toArray kr)]) mean mg mb dp un gd outer A₀ base g L h₁ rest s tk
noncomputable abbrev D : Type := (World) × (Addr) × (List Value) × (Nat) × (List PySem.Str) × (ExcName → Option Value) × (PySem.Str → Option Value) × (PySem.Str → Option Value) × (Nat) × (Nat) × (Option (List Code)) × (List Env) × (Around) × (Heap) × (Heap) × (Addr) × (Heap) × (List (Addr × Obj)) × (Shared) × (Nat)
theorem ne : Nonempty D := ⟨⟨w0, 0, [], 0, [], fun _ => none, fun _ => none, fun _ => none, 0, 0, none, [], {}, default, default, 0, default, [], {}, 0⟩⟩
noncomputable abbrev H (d : D) : Prop := G d.1 d.2.1 d.2.2.1 d.2.2.2.1 d.2.2.2.2.1 d.2.2.2.2.2.1 d.2.2.2.2.2.2.1 d.2.2.2.2.2.2.2.1 d.2.2.2.2.2.2.2.2.1 d.2.2.2.2.2.2.2.2.2.1 d.2.2.2.2.2.2.2.2.2.2.1 d.2.2.2.2.2.2.2.2.2.2.2.1 d.2.2.2.2.2.2.2.2.2.2.2.2.1 d.2.2.2.2.2.2.2.2.2.2.2.2.2.1 d.2.2.2.2.2.2.2.2.2.2.2.2.2.2.1 d.2.2.2.2.2.2.2.2.2.2.2.2.2.2.2.1 d.2.2.2.2.2.2.2.2.2.2.2.2.2.2.2.2.1 d.2.2.2.2.2.2.2.2.2.2.2.2.2.2.2.2.2.1 d.2.2.2.2.2.2.2.2.2.2.2.2.2.2.2.2.2.2.1 d.2.2.2.2.2.2.2.2.2.2.2.2.2.2.2.2.2.2.2
@[irreducible] noncomputable def d : D := @Classical.epsilon D ne fun d => ¬ H d
@[irreducible] noncomputable def w : World := d.1
@[irreducible] noncomputable def rl : Addr := d.2.1
@[irreducible] noncomputable def rv : List Value := d.2.2.1
@[irreducible] noncomputable def kr : Nat := d.2.2.2.1
@[irreducible] noncomputable def ws : List PySem.Str := d.2.2.2.2.1
@[irreducible] noncomputable def mean : ExcName → Option Value := d.2.2.2.2.2.1
@[irreducible] noncomputable def mg : PySem.Str → Option Value := d.2.2.2.2.2.2.1
@[irreducible] noncomputable def mb : PySem.Str → Option Value := d.2.2.2.2.2.2.2.1
@[irreducible] noncomputable def dp : Nat := d.2.2.2.2.2.2.2.2.1
@[irreducible] noncomputable def un : Nat := d.2.2.2.2.2.2.2.2.2.1
@[irreducible] noncomputable def gd : Option (List Code) := d.2.2.2.2.2.2.2.2.2.2.1
@[irreducible] noncomputable def outer : List Env := d.2.2.2.2.2.2.2.2.2.2.2.1
@[irreducible] noncomputable def A₀ : Around := d.2.2.2.2.2.2.2.2.2.2.2.2.1
@[irreducible] noncomputable def base : Heap := d.2.2.2.2.2.2.2.2.2.2.2.2.2.1
@[irreducible] noncomputable def g : Heap := d.2.2.2.2.2.2.2.2.2.2.2.2.2.2.1
@[irreducible] noncomputable def L : Addr := d.2.2.2.2.2.2.2.2.2.2.2.2.2.2.2.1
@[irreducible] noncomputable def h₁ : Heap := d.2.2.2.2.2.2.2.2.2.2.2.2.2.2.2.2.1
@[irreducible] noncomputable def rest : List (Addr × Obj) := d.2.2.2.2.2.2.2.2.2.2.2.2.2.2.2.2.2.1
@[irreducible] noncomputable def s : Shared := d.2.2.2.2.2.2.2.2.2.2.2.2.2.2.2.2.2.2.1
@[irreducible] noncomputable def tk : Nat := d.2.2.2.2.2.2.2.2.2.2.2.2.2.2.2.2.2.2.2
inductive I1 (el : Addr) (os or : Obj) (i : Nat) (m : PySem.Str → Option Value) (nl : List (Addr × Obj)) : Prop
  | mk (ev : List Value) (ke : Nat) (tl : List (Addr × Obj)) (oe op : Obj) (xe xp : Option Value)
    (h1 : Fars ws i tl ev)
    (h2 : (∀ p ∈ tl, @LT.lt Nat _ el p.1))
    (h3 : oe.data = .cell xe)
    (h4 : op.data = .cell xp)
    (h5 : nl = (el, listOf ev.toArray ke) :: (L + 1 + 1 + 1 + 1, oe) :: (L + 1 + 1 + 1, op) :: (L + 1 + 1, os) :: (L + 1, or) :: (rl, listOf rv.toArray kr) :: (tl ++ rest))
    : I1 el os or i m nl
inductive I2 (fl D el : Addr) (o9 op2 os or : Obj) (ev : List Value) (ke p : Nat) (R1 : List (Addr × Obj)) (j : Nat) (m : PySem.Str → Option Value) (nl : List (Addr × Obj)) : Prop
  | mk (fv : List Value) (kf : Nat) (oe : Obj) (xe : Option Value)
    (h1 : m (PySem.Str.ofString "far") = some (.ref fl))
    (h2 : IntsAre fv ((farOf ws p j).map Int.ofNat))
    (h3 : oe.data = .cell xe)
    (h4 : nl = (fl, listOf fv.toArray kf) :: (D, o9) :: (el, listOf ev.toArray ke) :: (L + 1 + 1 + 1 + 1, oe) :: (L + 1 + 1 + 1, op2) :: (L + 1 + 1, os) :: (L + 1, or) :: (rl, listOf rv.toArray kr) :: R1)
    : I2 fl D el o9 op2 os or ev ke p R1 j m nl
inductive I3 (cl el : Addr) (oe op os or : Obj) (ev : List Value) (ke : Nat) (R1 : List (Addr × Obj)) (z : Nat) (m₁ : PySem.Str → Option Value) (news₁ : List (Addr × Obj)) : Prop
  | mk (o cs : List Nat) (ov cv : List Value) (rd : Addr) (kk kc p : Nat)
    (h1 : z = ws.length - p)
    (h2 : p ≤ ws.length)
    (h3 : IntsAre ov (o.map Int.ofNat))
    (h4 : o.getLast? = some p)
    (h5 : (∀ q ∈ o, q ≤ p))
    (h6 : o.length ≤ 17)
    (h7 : IntsAre cv (cs.map Int.ofNat))
    (h8 : cutsFrom (rowOf ws).2 0 = cs ++ cutsFrom (rowOf ws).2 p)
    (h9 : cs.length ≤ p)
    (h10 : m₁ (PySem.Str.ofString "reached") = some (.ref rd))
    (h11 : m₁ (PySem.Str.ofString "cuts") = some (.ref cl))
    (h12 : @LT.lt Nat _ cl rd)
    (h13 : (∀ q ∈ R1, q.1 ≠ rd))
    (h14 : news₁ = (rd, listOf ov.toArray kk) :: (cl, listOf cv.toArray kc) :: (el, listOf ev.toArray ke) :: (L + 1 + 1 + 1 + 1, oe) :: (L + 1 + 1 + 1, op) :: (L + 1 + 1, os) :: (L + 1, or) :: (rl, listOf rv.toArray kr) :: R1)
    : I3 cl el oe op os or ev ke R1 z m₁ news₁
set_option maxRecDepth 100000 in
set_option maxHeartbeats 4000000 in
theorem core : mark PySem.Challenge.rw_us0019_01 K01 (G w rl rv kr ws mean mg mb dp un gd outer A₀ base g L h₁ rest s tk) := by
  k_fill
  unfold mark G CellsH
  (try dsimp only [pa22, bd22, sc22])
  intro hrv hok hlen
  intro cells B K T F N Y hR hE hsep hd hu
  k_cells Y
  simp only [List.cons_append, List.nil_append] at N
  rename_i oe op os or de dp' ds dr
  have der : or.data = .cell (some (.ref rl)) := dr
  have dee : oe.data = .cell none := de
  have dep : op.data = .cell none := dp'
  have des : os.data = .cell none := ds
  clear de dp' ds dr
  have C160 := codeHd160 K
  have hrL : @LT.lt Nat _ rl L := hE _ (.head _)
  have r1 : ∀ p ∈ rest, p.1 ≠ L + 1 := fun p hp => Nat.ne_of_lt (Nat.lt_succ_of_lt (hR p hp))
  have r2 : ∀ p ∈ rest, p.1 ≠ L + 1 + 1 := fun p hp => Nat.ne_of_lt (Nat.lt_succ_of_lt (Nat.lt_succ_of_lt (hR p hp)))
  have r3 : ∀ p ∈ rest, p.1 ≠ L + 1 + 1 + 1 := fun p hp => Nat.ne_of_lt (Nat.lt_succ_of_lt (Nat.lt_succ_of_lt (Nat.lt_succ_of_lt (hR p hp))))
  have r4 : ∀ p ∈ rest, p.1 ≠ L + 1 + 1 + 1 + 1 := fun p hp => Nat.ne_of_lt (Nat.lt_succ_of_lt (Nat.lt_succ_of_lt (Nat.lt_succ_of_lt (Nat.lt_succ_of_lt (hR p hp)))))
  k_steps
  unfold Stop
  rename_i el _ l1 _ os _ _ des
  refine For_it ?_
  k_steps
  unfold Stop
  have hl : rv.length = ws.length := hrv.length
  refine len_led (by assumption) (show (rl, listOf rv.toArray kr) ∈ _ by k_mem) (by omega) ?_
  intro tn tkn
  rw [hl]
  k_steps
  unfold Stop
  rename IsRange _ _ _ _ _ _ _ _ => hr9
  rename Fr _ _ _ _ => F9
  rename News _ _ _ _ => N9
  have hLe : @LT.lt Nat _ (L + 1 + 1 + 1 + 1) el := l1.1
  refine range_loop ws.length (I1 el os or) rfl hr9 (range_small (by omega) (by omega)) (range_size1 (by omega)) F9 N9
    ⟨[], 0, [], oe, op, _, _, .nil, by simp, dee, dep, rfl⟩ ?turn ?done
  case turn =>
    rintro p tp D o9 h tk m nl hp hI9 hDn hDl F N
    try k_fold
    obtain ⟨ev, ke, tl, oe, op, xe, xp, hF, hTl, dee, dep, rfl⟩ := hI9
    clear F9 N9
    have hnn : ∀ a, @LE.le Nat _ L a → @LE.le Nat _ a el → ∀ q ∈ tl ++ rest, q.1 ≠ a := fun a h1 h2 q hq => by
      rcases List.mem_append.mp hq with hq | hq
      · exact Nat.ne_of_gt (Nat.lt_of_le_of_lt h2 (hTl q hq))
      · exact Nat.ne_of_lt (Nat.lt_of_lt_of_le (hR q hq) h1)
    have n1 : ∀ q ∈ tl ++ rest, q.1 ≠ L + 1 := hnn _ (Nat.le_succ _) (by omega)
    have n2 : ∀ q ∈ tl ++ rest, q.1 ≠ L + 1 + 1 := hnn _ (by omega) (by omega)
    have n3 : ∀ q ∈ tl ++ rest, q.1 ≠ L + 1 + 1 + 1 := hnn _ (by omega) (by omega)
    have n4 : ∀ q ∈ tl ++ rest, q.1 ≠ L + 1 + 1 + 1 + 1 := hnn _ (by omega) (by omega)
    have n5 : ∀ q ∈ tl ++ rest, q.1 ≠ el := hnn _ (by omega) (Nat.le_refl _)
    have n6 : ∀ q ∈ tl ++ rest, q.1 ≠ D := fun q hq => hDl q (by repeat (first | exact hq | apply tail_in))
    have hDe : @LT.lt Nat _ el D := hDn _ (.head _)
    generalize hR1 : tl ++ rest = R1 at *
    rw [show (0 : Int) + (p : Int) = (p : Int) from Int.zero_add _]
    k_steps
    unfold Stop
    rename_i op2 dep2 fl _ l2 _ _ _
    refine For_it ?_
    k_steps
    unfold Stop
    refine len_led (by assumption) (show (rl, listOf rv.toArray kr) ∈ _ by k_mem) (by omega) ?_
    intro tn tkn
    rw [hl]
    k_steps
    unfold Stop
    rename IsRange _ _ _ _ _ _ _ _ => hr9
    rename Fr _ _ _ _ => F9
    rename News _ _ _ _ => N9
    obtain ⟨fv0, hfv0, N8⟩ : ∃ fv, IntsAre fv ((farOf ws p 0).map Int.ofNat) ∧ News g L _ ((fl, listOf fv.toArray 0) :: (D, o9) :: (el, listOf ev.toArray ke) :: (L + 1 + 1 + 1 + 1, oe) :: (L + 1 + 1 + 1, op2) :: (L + 1 + 1, os) :: (L + 1, or) :: (rl, listOf rv.toArray kr) :: R1) :=
      ⟨_, .cons _ _ .nil, news_sub N9 (by (repeat ((with_reducible refine' List.forall_mem_cons.mpr ⟨?_, ?_⟩); (focus k_mem))); intro p hp; repeat (first | exact hp | refine tail_in ?_))⟩
    have hDf : @LT.lt Nat _ D fl := l2.1
    have n7 : ∀ q ∈ R1, q.1 ≠ fl := fun q hq => Nat.ne_of_lt (allLt_in l2.2.2.2.2.2.2.2 q hq)
    refine range_loop (ws.length - 1 - p) (I2 fl D el o9 op2 os or ev ke p R1) rfl hr9 (range_smallAB (by omega) (by omega) (by omega)) (by rw [range_sizeAB (by omega)]; omega) F9 N8
      ⟨fv0, 0, oe, xe, rfl, hfv0, dee, rfl⟩ ?turn2 ?done2
    case turn2 =>
      rintro j tj D2 o8 h tk m nl hj hI9 hDn2 hDl2 F N
      try k_fold
      obtain ⟨fv, kf, oe, xe, c1, hfv, dee, rfl⟩ := hI9
      clear F9 N9 N8
      rw [nm1 c1] at F
      rw [show (p : Int) + 2 + (j : Int) = ((p + 2 + j : Nat) : Int) by omega]
      generalize he : p + 2 + j = e at *
      have hs2 : ∀ (o1 o2 : Obj) (q : Addr × Obj), q ∈ (fl, o1) :: (D, o9) :: (el, listOf ev.toArray ke) :: (L + 1 + 1 + 1 + 1, o2) :: (L + 1 + 1 + 1, op2) :: (L + 1 + 1, os) :: (L + 1, or) :: (rl, listOf rv.toArray kr) :: R1 → q.1 ≠ D2 := by
        intro o1 o2 q hq
        simp only [List.mem_cons] at hq
        rcases hq with rfl | rfl | rfl | rfl | rfl | rfl | rfl | rfl | hq
        · exact neOf hDl2 (.head _)
        · exact neOf hDl2 (.tail _ (.head _))
        · exact neOf hDl2 (.tail _ (.tail _ (.head _)))
        · exact neOf hDl2 (.tail _ (.tail _ (.tail _ (.head _))))
        · exact neOf hDl2 (.tail _ (.tail _ (.tail _ (.tail _ (.head _)))))
        · exact neOf hDl2 (.tail _ (.tail _ (.tail _ (.tail _ (.tail _ (.head _))))))
        · exact neOf hDl2 (.tail _ (.tail _ (.tail _ (.tail _ (.tail _ (.tail _ (.head _)))))))
        · exact neOf hDl2 (.tail _ (.tail _ (.tail _ (.tail _ (.tail _ (.tail _ (.tail _ (.head _))))))))
        · exact hDl2 _ (by repeat (first | exact hq | apply tail_in))
      have n8 : ∀ q ∈ R1, q.1 ≠ D2 := fun q hq => hDl2 q (by repeat (first | exact hq | apply tail_in))
      have hDf2 : @LT.lt Nat _ fl D2 := hDn2 _ (.head _)
      k_steps
      unfold Stop
      rename_i _ oe2 _ _ dee2
      rename Fr _ _ _ _ => F7
      rename News _ _ _ _ => N7
      refine ListComp_own (by rfl) (by rfl) (by decide) ?_
      k_steps
      unfold Stop
      rename IsRange _ _ _ _ _ _ _ _ => hr7
      rename Fr _ _ _ _ => F6
      rename News _ _ _ _ => N6
      refine top_range p (by decide) (by rfl) (by simp) rfl (fun i ys _ nl => IntsAre ys (((List.range i).filter (hitB ws p e)).map Int.ofNat) ∧
        nl = (D2, o8) :: (fl, listOf fv.toArray kf) :: (D, o9) :: (el, listOf ev.toArray ke) :: (L + 1 + 1 + 1 + 1, oe2) :: (L + 1 + 1 + 1, op2) :: (L + 1 + 1, os) :: (L + 1, or) :: (rl, listOf rv.toArray kr) :: R1)
        (fun _ v m₂ m₃ => m₃ = setN m₂ (PySem.Str.ofString "one") v) 0 hr7 (range_small (by omega) (by omega)) (range_size1 (by omega)) F6 N6 (Nat.zero_le _) ⟨.nil, rfl⟩ (fun I C => takes_name (by rfl) (by rfl)) ?turn3 ?done3
      case turn3 =>
        rintro I C D4 i t ys m₂ m₃ nl oI oC h tk hI hID hDC hi ⟨hys, rfl⟩ rfl hoC _ F N off ne
        clear F6 N6
        rw [show (0 : Int) + (i : Int) = (i : Int) from Int.zero_add _] at hoC
        refine testsOf_one ?_
        generalize hm3 : setN m₂ (PySem.Str.ofString "one") (.int (i : Int) t) = m₃ at hoC
        have hm : m₃ (PySem.Str.ofString "one") = some (.int (i : Int) t) := by rw [← hm3]; rfl
        k_steps
        unfold Stop
        rename Fr _ _ _ _ => F5
        rename News _ _ _ _ => N5
        refine slice_led (l := rl) (vs := rv) (k := kr) (a := i) (b := i + e - p) F5 N5 (by k_mem) (by omega) (by omega) (by omega) ?_
        intro D5 h5 F5' N5' hlt5
        clear F5 N5
        k_steps
        unfold Stop
        rename Fr _ _ _ _ => F5
        rename News _ _ _ _ => N5
        refine slice_led (l := rl) (vs := rv) (k := kr) (a := p) (b := e) F5 N5 (by k_mem) (by omega) (by omega) (by omega) ?_
        intro D6 h6 F6' N6' hlt6
        clear F5 N5
        k_steps
        unfold Stop
        rename Fr _ _ _ _ => F5
        rename News _ _ _ _ => N5
        have hb : decide ((ws.drop i).take (i + e - p - i) = (ws.drop p).take (e - p)) = hitB ws p e i := by
          rw [show i + e - p - i = e - p by omega]
          unfold hitB
          rw [Bool.eq_iff_iff, decide_eq_true_eq, beq_iff_eq]
        refine ks_eq (News.isList N5 (.tail _ (.head _))) (News.isList N5 (.head _)) (strs_take _ (strs_drop i hrv)) (strs_take _ (strs_drop p hrv)) (strsOk_take _ (strsOk_drop _ hok)) (strsOk_take _ (strsOk_drop _ hok)) (by dsimp only [ktrTop]; omega) ?_
        rw [hb]
        have hyl : ys.length ≤ i := by
          have h1 := hys.length
          have h2 := List.length_filter_le (hitB ws p e) (List.range i)
          rw [List.length_map] at h1
          rw [List.length_range] at h2
          omega
        cases hh : hitB ws p e i with
        | true =>
          k_steps
          refine cin_end (ys := ys) ⟨_, _, rfl⟩ (by rfl) hoC (by rw [sizeLine_eq]; omega) ?_
          k_steps
          refine LCg.CompEnd.intro (by assumption) (by assumption) _ ?sub off ⟨ne.2.1, ne.2.2⟩ ⟨?_, rfl⟩
          case sub => (((try simp only [List.cons_append, List.nil_append]); refine (?_ : HintTo _ _ _ _) (by repeat' (with_reducible (first | exact pkA | apply pkB | apply pkC | exact pkD | apply pkE | exact pkF | apply pkG))); exact fun _ => sub_pick rfl))
          rw [List.range_succ, List.filter_append, show [i].filter (hitB ws p e) = [i] by simp [hh], List.map_append]
          exact ints_app hys (.cons _ _ .nil)
        | false =>
          k_steps
          refine LevEnd.intro (ys := ys) (by assumption) hoC (by assumption) _ ?sub2 off ⟨?_, rfl⟩
          case sub2 => (((try simp only [List.cons_append, List.nil_append]); refine (?_ : HintTo _ _ _ _) (by repeat' (with_reducible (first | exact pkA | apply pkB | apply pkC | exact pkD | apply pkE | exact pkF | apply pkG))); exact fun _ => sub_pick rfl))
          rw [List.range_succ, List.filter_append, show [i].filter (hitB ws p e) = [] by simp [hh], List.append_nil]
          exact hys
      case done3 =>
        rintro D4 C h tk m' ys nl hD4 ⟨hys, rfl⟩ _ F N hn hC₀ hD₀ hCL hDL hCD off
        refine finD_eval D4 C h tk m' ys _ F N hn hC₀ hCL hDL hCD (fun p hp => (off p hp).1) ?_
        clear F N F6 N6
        intro h F N
        have hD24 : @LT.lt Nat _ D2 D4 := hD4 _ (.head _)
        k_steps
        unfold Stop
        rename Fr _ _ _ _ => F5
        rename News _ _ _ _ => N5
        refine ki_ne (News.isList N5 (.tail _ (.head _))) (News.isList N5 (.head _)) hys .nil (by dsimp only [ktrTop]; omega) ?_
        have hc : (!decide (((List.range p).filter (hitB ws p e)).map Int.ofNat = [])) = (List.range p).any (hitB ws p e) := by
          rw [Bool.eq_iff_iff]
          simp [List.filter_eq_nil_iff]
        rw [hc]
        have hfs := farOf_succ ws p j
        rw [he] at hfs
        have hfl9 : fv.length < 1000 := by
          have h1 := hfv.length
          have h2 := far_len ws p j
          rw [List.length_map] at h1
          omega
        cases hh : (List.range p).any (hitB ws p e) with
        | true =>
          rw [hh, if_pos rfl] at hfs
          k_steps
          rename Fr _ _ _ _ => F8
          rename News _ _ _ _ => N8
          rw [List.push_toArray] at N8
          refine ListStep.next ((fl, listOf _ (kf + 1)) :: (D, o9) :: (el, listOf ev.toArray ke) :: (L + 1 + 1 + 1 + 1, oe2) :: (L + 1 + 1 + 1, op2) :: (L + 1 + 1, os) :: (L + 1, or) :: (rl, listOf rv.toArray kr) :: R1) F8 (news_sub N8 (by (((try simp only [List.cons_append, List.nil_append]); refine (?_ : HintTo _ _ _ _) (by repeat' (with_reducible (first | exact pkA | apply pkB | apply pkC | exact pkD | apply pkE | exact pkF | apply pkG))); exact fun _ => sub_pick rfl))))
            ⟨_, kf + 1, oe2, _, rfl, by rw [hfs, List.map_append]; exact ints_app hfv (.cons _ _ .nil), dee2, rfl⟩ (hs2 _ _)
        | false =>
          rw [hh, if_neg Bool.false_ne_true] at hfs
          k_steps
          rename Fr _ _ _ _ => F8
          rename News _ _ _ _ => N8
          refine ListStep.next ((fl, listOf fv.toArray kf) :: (D, o9) :: (el, listOf ev.toArray ke) :: (L + 1 + 1 + 1 + 1, oe2) :: (L + 1 + 1 + 1, op2) :: (L + 1 + 1, os) :: (L + 1, or) :: (rl, listOf rv.toArray kr) :: R1) F8 (news_sub N8 (by (((try simp only [List.cons_append, List.nil_append]); refine (?_ : HintTo _ _ _ _) (by repeat' (with_reducible (first | exact pkA | apply pkB | apply pkC | exact pkD | apply pkE | exact pkF | apply pkG))); exact fun _ => sub_pick rfl))))
            ⟨fv, kf, oe2, _, rfl, by rw [hfs]; exact hfv, dee2, rfl⟩ (hs2 _ _)
    case done2 =>
      rintro h tk m nl hI9 F N
      try k_fold
      obtain ⟨fv, kf, oe, xe, c1, hfv, dee, rfl⟩ := hI9
      clear F9 N9 N8
      rw [nm1 c1] at F
      have hev : ev.length < 1000 := by rw [hF.len]; omega
      k_steps
      rename Fr _ _ _ _ => F8
      rename News _ _ _ _ => N8
      rw [List.push_toArray] at N8
      refine ListStep.next ((el, listOf (ev ++ [Value.ref fl]).toArray (ke + 1)) :: (L + 1 + 1 + 1 + 1, oe) :: (L + 1 + 1 + 1, op2) :: (L + 1 + 1, os) :: (L + 1, or) :: (rl, listOf rv.toArray kr) :: ((tl ++ [(fl, listOf fv.toArray kf)]) ++ rest)) F8 (news_sub N8 ?_)
        ⟨_, ke + 1, _, oe, op2, xe, _, .snoc hF hfv, ?_, dee, dep2, rfl⟩ ?_
      · intro q hq
        subst hR1
        exact sub_then (by (((try simp only [List.cons_append, List.nil_append]); refine (?_ : HintTo _ _ _ _) (by repeat' (with_reducible (first | exact pkA | apply pkB | apply pkC | exact pkD | apply pkE | exact pkF | apply pkG))); exact fun _ => sub_pick rfl))) (mem_mid (Z := [_, _, _, _, _, _, _]) hq)
      · intro q hq
        rcases List.mem_append.mp hq with hq | hq
        · exact hTl q hq
        · rw [List.mem_singleton.mp hq]; exact l2.2.1
      · intro q hq
        subst hR1
        simp only [List.mem_cons, List.mem_append, List.not_mem_nil, or_false] at hq
        rcases hq with rfl | rfl | rfl | rfl | rfl | rfl | ((hq | rfl) | hq)
        · exact neOf hDl (.head _)
        · exact neOf hDl (.tail _ (.head _))
        · exact neOf hDl (.tail _ (.tail _ (.head _)))
        · exact neOf hDl (.tail _ (.tail _ (.tail _ (.head _))))
        · exact neOf hDl (.tail _ (.tail _ (.tail _ (.tail _ (.head _)))))
        · exact neOf hDl (.tail _ (.tail _ (.tail _ (.tail _ (.tail _ (.head _))))))
        · exact n6 q (List.mem_append_left _ hq)
        · exact Nat.ne_of_gt hDf
        · exact n6 q (List.mem_append_right _ hq)
  case done =>
    rintro h tk m nl hI9 F N
    try k_fold
    obtain ⟨ev, ke, tl, oe, op, xe, xp, hF, hTl, dee, dep, rfl⟩ := hI9
    clear F9 N9
    have hnn : ∀ a, @LE.le Nat _ L a → @LE.le Nat _ a el → ∀ q ∈ tl ++ rest, q.1 ≠ a := fun a h1 h2 q hq => by
      rcases List.mem_append.mp hq with hq | hq
      · exact Nat.ne_of_gt (Nat.lt_of_le_of_lt h2 (hTl q hq))
      · exact Nat.ne_of_lt (Nat.lt_of_lt_of_le (hR q hq) h1)
    have n1 : ∀ q ∈ tl ++ rest, q.1 ≠ L + 1 := hnn _ (Nat.le_succ _) (by omega)
    have n2 : ∀ q ∈ tl ++ rest, q.1 ≠ L + 1 + 1 := hnn _ (by omega) (by omega)
    have n3 : ∀ q ∈ tl ++ rest, q.1 ≠ L + 1 + 1 + 1 := hnn _ (by omega) (by omega)
    have n4 : ∀ q ∈ tl ++ rest, q.1 ≠ L + 1 + 1 + 1 + 1 := hnn _ (by omega) (by omega)
    have n5 : ∀ q ∈ tl ++ rest, q.1 ≠ el := hnn _ (by omega) (Nat.le_refl _)
    generalize hR1 : tl ++ rest = R1 at *
    k_steps
    unfold Stop
    rename_i cl _ k1 _ _ rd0 _ k2 _ _ _
    rename Fr _ _ _ _ => F9
    rename News _ _ _ _ => N9
    have hrow := row_len ws
    have hcR : ∀ q ∈ R1, q.1 ≠ cl := fun q hq => Nat.ne_of_lt (allLt_in k1.2.2.2.2.2.2 q hq)
    have hce : @LT.lt Nat _ el cl := k1.1
    refine While_inv (I3 cl el oe op os or ev ke R1) (n₀ := ws.length) F9 N9 ?start ?wturn
    case start => exact ⟨[0], [], _, [], rd0, 0, 0, 0, rfl, Nat.zero_le _, .cons _ _ .nil, rfl, by simp, by decide, .nil, rfl, Nat.le_refl _, rfl, rfl, k2.1, fun q hq => Nat.ne_of_lt (allLt_in k2.2.2.2.2.2.2.2 q hq), rfl⟩
    case wturn =>
      rintro z m₁ news₁ h₁ tk₁ F₁ N₁ hI9
      try k_fold
      obtain ⟨o, cs, ov, cv, rd, kk, kc, p, rfl, hpl, hov, hlast, hall, holen, hcv, hcut, hcl, j1, j2, hcr, hrR, rfl⟩ := hI9
      clear F9 N9
      rw [nm1 j2, under (nm1 j1)] at F₁
      have hon : o ≠ [] := by rintro rfl; cases hlast
      have hol : ov.length = o.length := by rw [hov.length, List.length_map]
      have hopos : 0 < o.length := List.length_pos_iff.mpr hon
      have hcvl : cv.length < 1000 := by have := hcv.length; rw [List.length_map] at this; omega
      obtain ⟨tp, htp⟩ := nat_at hov (show o[ov.length - 1]? = some p by rw [hol, ← List.getLast?_eq_getElem?]; exact hlast)
      k_steps
      unfold Stop
      refine item_neg (i := 1) (by assumption) (.head _) (by decide) (by omega) (by omega) rfl htp ?_
      k_steps
      unfold Stop
      refine len_led (l := rl) (vs := rv) (k := kr) (by assumption) (by k_mem) (by omega) ?_
      intro tn tkn
      rw [hl]
      k_steps
      · unfold Stop
        have hpn : p < ws.length := by omega
        rename Fr _ _ _ _ => F7
        rename News _ _ _ _ => N7
        refine ListComp_own (by rfl) (by rfl) (by decide) ?_
        k_steps
        unfold Stop
        rename Fr _ _ _ _ => F6
        rename News _ _ _ _ => N6
        refine top_list (l := rd) (vs := ov) (k := kk) (by decide) (by rfl) (by intro g' hg; cases hg; rfl) rfl (fun i ys _ nl => IntsAre ys ((farsOf ws (o.take i)).map Int.ofNat) ∧
          nl = (rd, listOf ov.toArray kk) :: (cl, listOf cv.toArray kc) :: (el, listOf ev.toArray ke) :: (L + 1 + 1 + 1 + 1, oe) :: (L + 1 + 1 + 1, op) :: (L + 1 + 1, os) :: (L + 1, or) :: (rl, listOf rv.toArray kr) :: R1)
          (fun _ v m₂ m₃ => m₃ = setN m₂ (PySem.Str.ofString "place") v) 0 (by rintro i ys m₂ nl ⟨_, rfl⟩; exact .head _) F6 N6 (Nat.zero_le _) ⟨.nil, rfl⟩ (fun I C => takes_name (by rfl) (by rfl)) ?cturn ?cdone
        case cturn =>
          rintro I C D4 i v ys m₂ m₃ nl oI oC h tk hI hID hDC hv ⟨hys, rfl⟩ rfl hoC _ F N off ne
          clear F6 N6
          obtain ⟨tq, rfl, hqo⟩ := ints_at hov hv
          have hoi : o[i]? = some (o.getD i 0) := by
            have h1 := (List.getElem?_eq_some_iff.mp hv).1
            rw [List.getD_eq_getElem?_getD, List.getElem?_eq_getElem (by omega)]
            rfl
          generalize o.getD i 0 = q at *
          have hqp := hall q hqo
          obtain ⟨a, fv, kf, h1, h2, h3⟩ := hF.get q (by omega)
          have hmR : (a, listOf fv.toArray kf) ∈ R1 := by rw [← hR1]; exact List.mem_append_left _ h2
          refine testsOf_nil ?_
          rw [if_pos rfl]
          refine cin_more (by rfl) (by intro _; rfl) ?_
          generalize hm3 : setN m₂ (PySem.Str.ofString "place") (.int (q : Int) tq) = m₃ at hoC
          have hm : m₃ (PySem.Str.ofString "place") = some (.int (q : Int) tq) := by rw [← hm3]; rfl
          k_steps
          unfold Stop
          refine item_led (vs := ev) (l := el) (k := ke) (by assumption) (by k_mem) (by omega) h1 ?_
          k_steps
          unfold Stop
          rename Fr _ _ _ _ => F6
          rename News _ _ _ _ => N6
          have htake : farsOf ws (o.take (i + 1)) = farsOf ws (o.take i) ++ farOf ws q (ws.length - 1 - q) := by
            unfold farsOf
            rw [List.take_add_one, hoi, List.flatMap_append]
            simp
          have hfln : fv.length = (farOf ws q (ws.length - 1 - q)).length := by rw [h3.length, List.length_map]
          refine lev_list (l := a) (vs := fv) (k := kf) (by rfl) (by intro g' hg; cases hg) rfl (fun j ys _ nl => IntsAre ys ((farsOf ws (o.take i) ++ (farOf ws q (ws.length - 1 - q)).take j).map Int.ofNat) ∧
            nl = (I, oI) :: (rd, listOf ov.toArray kk) :: (cl, listOf cv.toArray kc) :: (el, listOf ev.toArray ke) :: (L + 1 + 1 + 1 + 1, oe) :: (L + 1 + 1 + 1, op) :: (L + 1 + 1, os) :: (L + 1, or) :: (rl, listOf rv.toArray kr) :: R1)
            (fun _ v m₂ m₃ => m₃ = setN m₂ (PySem.Str.ofString "end") v) 0 (by rintro i ys m₂ nl ⟨_, rfl⟩; simp [hmR]) (fun I => takes_name (by rfl) (by rfl)) ?eturn ?edone (Nat.zero_le _) F6 hoC (ys₁ := ys) (nl₁ := (I, oI) :: (rd, listOf ov.toArray kk) :: (cl, listOf cv.toArray kc) :: (el, listOf ev.toArray ke) :: (L + 1 + 1 + 1 + 1, oe) :: (L + 1 + 1 + 1, op) :: (L + 1 + 1, os) :: (L + 1, or) :: (rl, listOf rv.toArray kr) :: R1) (news_sub N6 (by (((try simp only [List.cons_append, List.nil_append]); refine (?_ : HintTo _ _ _ _) (by repeat' (with_reducible (first | exact pkA | apply pkB | apply pkC | exact pkD | apply pkE | exact pkF | apply pkG))); exact fun _ => sub_pick rfl)))) ?offs ne.2.2 ⟨by simpa using hys, rfl⟩
          case offs =>
            intro r hr
            rcases List.mem_cons.mp hr with rfl | hr
            · exact ⟨ne.1, ne.2.1⟩
            · exact (off.mem r hr).2
          case eturn =>
            rintro I2 j v2 ys2 m4 m5 nl2 oI2 oC2 h' tk' hv2 ⟨hys2, rfl⟩ rfl hoC2 _ F' N' off2 ne2
            clear F6 N6
            have hj9 := (List.getElem?_eq_some_iff.mp hv2).1
            have hlf := farsOf_len hpn (o := o.take i) fun x hx => hall x (List.mem_of_mem_take hx)
            have hlt : (o.take i).length ≤ 17 := by rw [List.length_take]; omega
            have hl16 : (o.take i).length * (ws.length + 1) ≤ 17 * 16 := Nat.mul_le_mul hlt (by omega)
            have hl1 := far_len ws q (ws.length - 1 - q)
            have hyl : ys2.length ≤ 1000 := by
              have h9 := hys2.length
              rw [List.length_map, List.length_append, List.length_take] at h9
              omega
            obtain ⟨te, rfl, heo⟩ := ints_at h3 hv2
            have hej : (farOf ws q (ws.length - 1 - q))[j]? = some ((farOf ws q (ws.length - 1 - q)).getD j 0) := by
              rw [List.getD_eq_getElem?_getD, List.getElem?_eq_getElem (by omega)]
              rfl
            generalize (farOf ws q (ws.length - 1 - q)).getD j 0 = e at *
            refine testsOf_nil ?_
            rw [if_pos rfl]
            refine cin_end (ys := ys2) ⟨_, _, rfl⟩ (by rfl) hoC2 (by rw [sizeLine_eq]; omega) ?_
            generalize hm5 : setN m4 (PySem.Str.ofString "end") (.int (e : Int) te) = m5 at hoC2 ⊢
            have hm : m5 (PySem.Str.ofString "end") = some (.int (e : Int) te) := by rw [← hm5]; rfl
            k_steps
            refine LCg.CompEnd.intro (by assumption) (by assumption) _ ?sub9 off2 ⟨ne2.2.1, ne2.2.2⟩ ⟨?_, rfl⟩
            case sub9 => (((try simp only [List.cons_append, List.nil_append]); refine (?_ : HintTo _ _ _ _) (by repeat' (with_reducible (first | exact pkA | apply pkB | apply pkC | exact pkD | apply pkE | exact pkF | apply pkG))); exact fun _ => sub_pick rfl))
            rw [List.take_add_one, hej, ← List.append_assoc, List.map_append]
            exact ints_app hys2 (.cons _ _ .nil)
          case edone =>
            rintro h' tk' ys2 m₄ oC2 nl ⟨hys2, rfl⟩ hoC2 _ F' N' off'
            show LevEnd _ _ _ _ _ _ _ _ _ _
            refine LevEnd.intro (ys := ys2) F' hoC2 N' _ ?sub8 off ⟨?_, rfl⟩
            case sub8 => (((try simp only [List.cons_append, List.nil_append]); refine (?_ : HintTo _ _ _ _) (by repeat' (with_reducible (first | exact pkA | apply pkB | apply pkC | exact pkD | apply pkE | exact pkF | apply pkG))); exact fun _ => sub_pick rfl))
            rw [htake]
            rw [hfln, List.take_length] at hys2
            exact hys2
        case cdone =>
          rintro D4 C h tk m' ys nl hD4 ⟨hys, rfl⟩ _ F N hn hC₀ hD₀ hCL hDL hCD off
          refine finD_eval D4 C h tk m' ys _ F N hn hC₀ hCL hDL hCD (fun p hp => (off p hp).1) ?_
          clear F N F6 N6
          intro h F N
          rw [hol, List.take_length] at hys
          have hlf := farsOf_len hpn (o := o) hall
          have hl16 : o.length * (ws.length + 1) ≤ 17 * 16 := Nat.mul_le_mul holen (by omega)
          have hlt4 : ∀ q ∈ R1, @LT.lt Nat _ q.1 D4 := fun q hq => hD4 q (by repeat (first | exact hq | apply tail_in))
          have hr4 : @LT.lt Nat _ rd D4 := hD4 _ (.head _)
          k_steps
          unfold Stop
          refine set_ints (l := D4) rfl (by assumption) (by assumption) (.head _) hys (fun x hx => by have := fars_lt hpn hall x hx; omega) ?_
          intro D5 h5 tk5 oS ds F5 N5 hlt5 hS hds
          obtain ⟨hdl, hnext⟩ := reach_next (ds := ds.map Int.ofNat) hpn (List.mem_of_getLast? hlast) hall (fun k => by rw [List.mem_map, List.mem_map]; exact ⟨fun ⟨a, h1, h2⟩ => ⟨a, (hds a).mp h1, h2⟩, fun ⟨a, h1, h2⟩ => ⟨a, (hds a).mpr h1, h2⟩⟩) (nodup_ofNat hS.nodup)
          clear F N
          k_steps
          unfold Stop
          refine sorted_set (D := D5) rfl F5 N5 (.head _) hS ?_
          intro B h6 tk6 out kB ns' F6 N6 hlt6 hout hper hsort
          obtain ⟨o', rfl, hall', hlast', hlen'⟩ := hnext ns' hper hsort
          have h45 : @LT.lt Nat _ D4 D5 := hlt5 _ (.head _)
          have h5B : @LT.lt Nat _ D5 B := hlt6 _ (.head _)
          have hBR : ∀ q ∈ R1, q.1 ≠ B := fun q hq => by
            have := hlt4 q hq
            exact Nat.ne_of_lt (by omega)
          clear F5 N5
          k_steps
          unfold Stop
          have hrg := reach_gt (rowOf ws).2 p
          have hrl9 := reach_le (row := (rowOf ws).2) (p := p) (by omega)
          have hol' : out.length = o'.length := by rw [hout.length, List.length_map]
          have hop' : 0 < o'.length := by
            rcases Nat.eq_zero_or_pos o'.length with h | h
            · rw [List.length_eq_zero_iff.mp h] at hlast'; cases hlast'
            · exact h
          obtain ⟨tp', htp'⟩ := nat_at hout (show o'[out.length - 1]? = some (reachE (rowOf ws).2 p) by rw [hol', ← List.getLast?_eq_getElem?]; exact hlast')
          refine item_neg (i := 1) (by assumption) (.head _) (by decide) (by omega) (by omega) rfl htp' ?_
          k_steps
          rename Fr _ _ _ _ => F8
          rename News _ _ _ _ => N8
          rw [List.push_toArray] at N8
          refine WhileStep.intro (n' := ws.length - reachE (rowOf ws).2 p) F8 (news_sub N8 (l' := (B, listOf out.toArray kB) :: (cl, listOf (cv ++ [Value.int ((reachE (rowOf ws).2 p : Nat) : Int) tp']).toArray (kc + 1)) :: (el, listOf ev.toArray ke) :: (L + 1 + 1 + 1 + 1, oe) :: (L + 1 + 1 + 1, op) :: (L + 1 + 1, os) :: (L + 1, or) :: (rl, listOf rv.toArray kr) :: R1) (by (((try simp only [List.cons_append, List.nil_append]); refine (?_ : HintTo _ _ _ _) (by repeat' (with_reducible (first | exact pkA | apply pkB | apply pkC | exact pkD | apply pkE | exact pkF | apply pkG))); exact fun _ => sub_pick rfl)))) (by omega)
            ⟨o', cs ++ [reachE (rowOf ws).2 p], out, _, B, kB, kc + 1, reachE (rowOf ws).2 p, rfl, by omega, hout, hlast', hall', by omega, by rw [List.map_append]; exact ints_app hcv (.cons _ _ .nil), ?_, ?_, rfl, rfl, by omega, hBR, rfl⟩
          · rw [hcut, cuts_step (by omega), List.append_assoc]; rfl
          · rw [List.length_append, List.length_singleton]; omega
      · dsimp only
        have hp9 : p = ws.length := by omega
        subst hp9
        rw [cuts_stop (row := (rowOf ws).2) (p := ws.length) (by omega), List.append_nil] at hcut
        refine Back.intro [(cl, listOf cv.toArray kc), (rl, listOf rv.toArray kr)] (by assumption) (news_sub (by assumption) ?_) ⟨cl, cv, kc, rfl, by rw [hcut]; exact hcv, rfl⟩ (NewOk.cons ?_ (NewOk.same rfl))
        · intro q hq
          subst hR1
          refine sub_then (l' := (cl, listOf cv.toArray kc) :: (rl, listOf rv.toArray kr) :: (tl ++ rest)) (by (((try simp only [List.cons_append, List.nil_append]); refine (?_ : HintTo _ _ _ _) (by repeat' (with_reducible (first | exact pkA | apply pkB | apply pkC | exact pkD | apply pkE | exact pkF | apply pkG))); exact fun _ => sub_pick rfl))) ?_
          rcases List.mem_append.mp hq with hq | hq
          · exact List.mem_append_left (as := [_, _]) _ hq
          · exact .tail _ (.tail _ (List.mem_append_right _ hq))
        · intro q hq
          rcases List.mem_append.mp hq with hq | hq
          · rw [List.mem_singleton.mp hq]; omega
          · exact allLt_in k1.2.2.2.2.2.2 q (by rw [← hR1]; exact List.mem_append_right _ hq)
theorem all (d : D) : H d := by
  refine eps_all ne H ?_ d
  have h := core
  unfold mark w rl rv kr ws mean mg mb dp un gd outer A₀ base g L h₁ rest s tk NFar.d at h
  exact h
end NFar
set_option maxRecDepth 100000 in
set_option maxHeartbeats 4000000 in
theorem law_farthest {w : World} {rl : Addr} {rv : List Value} {kr : Nat} {ws : List PySem.Str} (hrv : StrsAre rv ws) (hok : StrsOk ws) (hlen : ws.length < 16) : mark PySem.Challenge.rw_us0019_01 K01
   (Spec w 211 [.ref rl] [] 60 600 [(rl, listOf rv.toArray kr)] fun r E' => ∃ l cv k, r = .ref l ∧ IntsAre cv ((cutsFrom (rowOf ws).2 0).map Int.ofNat) ∧ E' = [(l, listOf cv.toArray k), (rl, listOf rv.toArray kr)]) := by
  ((k_fill; unfold mark; (k_dflt (refine' spec_cells ?ho ?hcd ?hd1 ?hb ?hl ?hnd ?hco ?hg ?hk ?_; (case ho => k_is); (case hcd => k_is); (case hd1 => decide); (case hb => intro _ KX; first | exact BindsTo.of_eq rfl | exact binds_K KX rfl (by k_is) rfl rfl rfl); (case hl => exact rfl); (case hnd => decide +kernel); (case hco => exact rfl); (case hg => exact rfl); (case hk => exact rfl)); (try dsimp only [pa22, bd22, sc22]))))
  intro mean mg mb dp un gd outer A₀ base g L h₁ cells rest s tk
  exact NFar.all ⟨w, rl, rv, kr, ws, mean, mg, mb, dp, un, gd, outer, A₀, base, g, L, h₁, rest, s, tk⟩ hrv hok hlen cells
end
section
noncomputable def SpecTop (w : World) (f : Addr) (args : List Value) (kw : List (PySem.Str × Value)) (d u : Nat) (E₀ : List (Addr × Obj)) (Post : Value → List (Addr × Obj) → Prop) : Prop :=
  ∀ (mean : ExcName → Option Value) (mg mb : PySem.Str → Option Value) (dp un : Nat) (gd : Option (List Code)) (cn : PySem.Str) (cs : Scope) (a : Addr) (ccd : Value) (clc : List (PySem.Str × Addr)) (A₀ : Around) (base h₀ : Heap) (L : Addr)
    (m : PySem.Str → Option Value) (rest : List (Addr × Obj)) (s : Shared) (Q E : Value → Shared → Prop),
    Below A₀ base [] h₀ → Fr h₀ L s.heap m → (K01 w.params).In h₀ → News h₀ L s.heap (E₀ ++ rest) → Top topProg looseQ mean mg mb h₀ → (K01 w.params).In base → Top topProg looseQ mean mg mb base → cs.kind = .function → dp + d < recursionLimit → un + u < cLine →
    (∀ p ∈ rest, ∀ q ∈ E₀, p.1 ≠ q.1) →
    (∀ r E' h' tk', Post r E' → Fr h₀ L h' m → News h₀ L h' (E' ++ rest) → NewOk E₀ rest E' → Q r { s with heap := h', toks := tk' }) →
    codeAny (model P1 w) (ktrTop dp un gd cn cs L a ccd clc []) (.call (.ref f) ⟨args, kw⟩) (fun r s' => match r with | .ok (.ret v) => Q v s' | .ok _ => False | .error e => E e s') s
noncomputable def BackTop (fs : List Addr) (E₀ : List (Addr × Obj)) (g : Heap) (s : Shared) (rest : List (Addr × Obj)) (Post : Value → List (Addr × Obj) → Prop) (v : Value) (s' : Shared) : Prop :=
  ∃ g' L' E' h' tk' m', s' = { s with heap := h', toks := tk' } ∧ Post v E' ∧ KtsTurn fs g g' ∧ Fr g' L' h' m' ∧ News g' L' h' (E' ++ rest) ∧ NewOk E₀ rest E'
theorem BackTop.intro {fs : List Addr} {E₀ : List (Addr × Obj)} {g g' : Heap} {L' : Addr} {s : Shared} {rest : List (Addr × Obj)} {Post : Value → List (Addr × Obj) → Prop} {v : Value} (E' : List (Addr × Obj)) {h' : Heap} {tk' : Nat} {m' : PySem.Str → Option Value}
    (T : KtsTurn fs g g') (F : Fr g' L' h' m') (N : News g' L' h' (E' ++ rest)) (hp : Post v E') (hn : NewOk E₀ rest E') : BackTop fs E₀ g s rest Post v { s with heap := h', toks := tk' } := ⟨g', L', E', h', tk', m', rfl, hp, T, F, N, hn⟩
section
variable {w : World} {f : Addr} {args : List Value} {kw : List (PySem.Str × Value)} {d u : Nat} {E₀ : List (Addr × Obj)} {Post : Value → List (Addr × Obj) → Prop}
  {name qual : PySem.Str} {params : Arguments} {body : List Stmt} {scope : Scope} {dV kV doc pm cdv ct oc : Value} {an od : Option Addr} {osl : Array (Option Value)} {binds : List (PySem.Str × Value)}
theorem code_turn {A A₀ : Around} {s : Shared} {base h₀ : Heap} {L : Addr} {m : PySem.Str → Option Value} {news : List (Addr × Obj)} {env : Env} {fo : Obj} {args : Args} {R : Result → Shared → Prop}
    (B : Below A₀ base [] h₀) (F : Fr h₀ L s.heap m) (N : News h₀ L s.heap news) (hlim : h₀.NoLimit) (hA : A.frames = some [env]) (hf : env.frame = some L) (hke : env.scope.kind = .function)
    (ho : s.heap.get? f = some fo) (hd : fo.data = .func (fnX name qual params body scope [] dV kV doc pm an cdv ct)) (hcd : s.heap.CodeRec cdv qual) (hroom : A.depth < recursionLimit)
    (hbind : BindsTo s (fnX name qual params body scope [] dV kV doc pm an cdv ct) args binds) (hloc : ∀ y ∈ binds, scope.names.lookup y.1 = some .local)
    (h : ∀ g L' h₁, Fr h₀ L g m → Fr g L' h₁ (fun y => binds.reverse.lookup y) → News g L' h₁ news → Below A base [env] g → h₀.StaysIn g → KtsDicts ([env].filterMap (·.frame)) g →
      wpAny (model P1 w) (A.deeper (envX qual scope L' f cdv [])) (execs body (envX qual scope L' f cdv []))
        (fun fl s' => LeaveS0 ([env].filterMap (·.frame)) h₀ L m g R (match fl with | .ret v => v | _ => .none) s')
        (fun e s' => wpAny (model P1 w) (A.deeper (envX qual scope L' f cdv [])) (leaving (envX qual scope L' f cdv []) e) (fun _ s'' => R (.error e) s'') (fun e' s'' => R (.error e') s'') s')
        { s with heap := h₁, toks := s.toks + binds.length })
    (hcell : ∀ x ∈ scope.names, x.2 ≠ .cell) (hco : scope.isCoroutine = false) (hgen : scope.isGenerator = false) (hk : scope.kind = .function) : codeAny (model P1 w) A (.call (.ref f) args) R s := by
  refine pack fun G9 hG9 => ?_
  obtain ⟨FG, BG, st, _⟩ := groundX (R := R) B F N hA hf hke
  refine hG9 ?_
  clear hG9
  have hfm : [env].filterMap (·.frame) = [L] := by simp [hf]
  refine codeAny_call_def (fd := fnX name qual params body scope [] dV kV doc pm an cdv ct) (body := body) (binds := binds) hroom ho hd (hlim.keeps F.keep) hcd rfl hbind hcell hloc (fun h₁ hns hk₁ => ?_) hco hgen hk
  refine pack fun G9 hG9 => ?_
  obtain ⟨oL, es, ep, hL, hLd, hLk, hLf⟩ := FG.ns
  refine hG9 ?_
  clear hG9
  refine wpAny_mono (h _ s.heap.objs.size h₁ FG ⟨hns, fun b o e => hk₁ b o (of_hideAll _ e), Nat.le_of_eq (hideAll_size _ _)⟩
    (fun p hp => ⟨hk₁ _ _ (N p hp).1, Nat.ne_of_lt (Heap.lt_size (N p hp).1), hideAll_none _ (List.mem_map_of_mem hp)⟩) BG st (fun b hb => ?_)) (fun fl s' hl => ?_) fun _ _ y => y
  · rw [hfm] at hb
    rw [List.mem_singleton.mp hb]
    exact ⟨oL, es, ep, hL, hLd⟩
  refine pack fun G9 hG9 => ?_
  obtain ⟨g', L', m', news', T', F', N', k⟩ := hl
  refine hG9 ?_
  clear hG9
  have nL₀ : h₀.get? L = none := kts_self F
  obtain ⟨sl, hs⟩ := T'.up hL
  refine k ⟨⟨_, es, ep, F'.keep _ _ hs, hLd, hLk, hLf⟩, fun b o e => F'.keep b o (T'.other b o (st b o e) (fun q => ?_)), F.above⟩ fun p hp => ⟨(N' p hp).1, fun q => ?_, ?_⟩
  · rw [hfm] at q
    rw [List.mem_singleton.mp q, nL₀] at e
    cases e
  · have := (N' p hp).2.2; rw [q, hs] at this; cases this
  · cases q : h₀.get? p.1 with
    | none => rfl
    | some o =>
      obtain ⟨sl', hs'⟩ := T'.up (st _ _ q)
      have := (N' p hp).2.2
      rw [hs'] at this
      cases this
theorem spec_top (ho : (K01 w.params).lookup f = some ⟨oc, od, .func (fnOf name qual params body scope dV kV doc pm an cdv ct), osl⟩) (hcd : codeIn (K01 w.params) cdv qual = true) (hd1 : 1 ≤ d)
    (hbind : ∀ s : Shared, (K01 w.params).In s.heap → BindsTo s (fnOf name qual params body scope dV kV doc pm an cdv ct) ⟨args, kw⟩ binds) (hloc : ∀ y ∈ binds, scope.names.lookup y.1 = some .local)
    (hco : scope.isCoroutine = false) (hgen : scope.isGenerator = false) (hk : scope.kind = .function) (hcell : ∀ x ∈ scope.names, x.2 ≠ .cell)
    (h : ∀ (mean : ExcName → Option Value) (mg mb : PySem.Str → Option Value) (dp un : Nat) (gd : Option (List Code)) (cn : PySem.Str) (cs : Scope) (Lc a : Addr) (ccd : Value) (clc : List (PySem.Str × Addr)) (base g : Heap) (L : Addr) (h₁ : Heap) (rest : List (Addr × Obj)) (s : Shared) (tk : Nat),
      Below (ktrTop dp un gd cn cs Lc a ccd clc []) base [envX cn cs Lc a ccd clc] g → (K01 w.params).In g → Top topProg looseQ mean mg mb g → (K01 w.params).In base → Top topProg looseQ mean mg mb base → KtsDicts ([envX cn cs Lc a ccd clc].filterMap (·.frame)) g →
      Fr g L h₁ (fun y => binds.reverse.lookup y) → News g L h₁ (E₀ ++ rest) → (∀ p ∈ rest, ∀ q ∈ E₀, p.1 ≠ q.1) → dp + d < recursionLimit → un + u < cLine →
      wpAny (model P1 w) (ktrTop (dp + 1) (un + 3) gd qual scope L f cdv [] [envX cn cs Lc a ccd clc]) (execs body (envX qual scope L f cdv [])) (fun fl s' => BackTop ([envX cn cs Lc a ccd clc].filterMap (·.frame)) E₀ g s rest Post (match fl with | .ret v => v | _ => .none) s') noE { s with heap := h₁, toks := tk }) :
    SpecTop w f args kw d u E₀ Post := by
  intro mean mg mb dp un gd cn cs a ccd clc A₀ base h₀ L m rest s Q E B F X N T XB TB hks hd hu hsep hret
  refine code_turn (env := envX cn cs L a ccd clc) B F N T.nolimit rfl rfl hks (F.keep _ _ (X _ _ ho)) rfl (codeRec_of (X.keeps F.keep) hcd) (by show dp < recursionLimit; omega) (hbind _ (X.keeps F.keep)) hloc (fun g L' h₁ FG F' N' B' st D' => ?_) hcell hco hgen hk
  refine wpAny_mono (h mean mg mb dp un gd cn cs L a ccd clc base g L' h₁ rest s _ B' (X.keeps st) (T.keeps st) XB TB D' F' N' hsep hd hu) (fun fl s' hb => ?_) fun _ _ e => e.elim
  refine pack fun G9 hG9 => ?_
  obtain ⟨g', L9, E', h', tk', m', rfl, hp, T9, F9, N9, hn9⟩ := hb
  refine hG9 ?_
  clear hG9
  exact leaveS0_ F9 N9 T9 fun Fh Nh => hret _ _ _ _ hp Fh Nh hn9
end
section
variable {w : World} {f : Addr} {args : List Value} {kw : List (PySem.Str × Value)} {d u : Nat} {E₀ E₁ : List (Addr × Obj)} {mean : ExcName → Option Value} {mg mb : PySem.Str → Option Value} {dp un : Nat} {gd : Option (List Code)} {cn : PySem.Str} {cs : Scope} {a : Addr} {ccd : Value} {cl : List (PySem.Str × Addr)} {outer : List Env} {A₀ : Around} {base h₀ : Heap} {L : Addr}
    {m : PySem.Str → Option Value} {s : Shared} {Q E : Value → Shared → Prop} {nl : List (Addr × Obj)}
theorem stop_use (C : SpecStop w f args kw d u E₀ E₁) (rest : List (Addr × Obj)) (B : Below A₀ base outer h₀) (F : Fr h₀ L s.heap m) (X : (K01 w.params).In h₀) (N : News h₀ L s.heap nl) (T : Top topProg looseQ mean mg mb h₀) (hks : cs.kind = .function) (hd : dp + d < recursionLimit) (hu : un + u < cLine)
    (hperm : ∀ p ∈ E₀ ++ rest, p ∈ nl) (hsep : ∀ p ∈ rest, ∀ q ∈ E₀, p.1 ≠ q.1)
    (hret : ∀ e G h' tk', Fr h₀ L G m → RaisedSN base G (envX cn cs L a ccd cl :: outer) e (.type "StopIteration") (E₁ ++ rest) h' → G.UpToSlots h' → E (.ref e) { s with heap := h', toks := tk' }) :
    wpAny (model P1 w) (ktrTop dp un gd cn cs L a ccd cl outer) (call (.ref f) args kw) Q E s :=
  wpAny_call <| C mean mg mb dp un gd cn cs a ccd cl outer A₀ base h₀ L m rest s Q E B F X (fun p hp => N p (hperm p hp)) T hks hd hu hsep hret
theorem top_use {Post : Value → List (Addr × Obj) → Prop} (C : SpecTop w f args kw d u E₀ Post) (rest : List (Addr × Obj)) (B : Below A₀ base [] h₀) (F : Fr h₀ L s.heap m) (X : (K01 w.params).In h₀) (N : News h₀ L s.heap nl) (T : Top topProg looseQ mean mg mb h₀) (XB : (K01 w.params).In base) (TB : Top topProg looseQ mean mg mb base)
    (hks : cs.kind = .function) (hd : dp + d < recursionLimit) (hu : un + u < cLine)
    (hperm : ∀ p ∈ E₀ ++ rest, p ∈ nl) (hsep : ∀ p ∈ rest, ∀ q ∈ E₀, p.1 ≠ q.1)
    (hret : ∀ r E' h' tk', Post r E' → Fr h₀ L h' m → News h₀ L h' (E' ++ rest) → NewOk E₀ rest E' → Q r { s with heap := h', toks := tk' }) :
    wpAny (model P1 w) (ktrTop dp un gd cn cs L a ccd cl []) (call (.ref f) args kw) Q E s :=
  wpAny_call <| C mean mg mb dp un gd cn cs a ccd cl A₀ base h₀ L m rest s Q E B F X (fun p hp => N p (hperm p hp)) T XB TB hks hd hu hsep hret
end
theorem isExc_StopIteration : isSubtype (.type "StopIteration") (.type "BaseException") = pure true := by rw [isSubtype_type]; kernel_rfl
theorem notTuple_StopIteration : isSubtype (.type ((Manifest.find? "StopIteration").elim "type" fun y => y.metatype)) (.type "tuple") = pure false := by rw [isSubtype_type]; kernel_rfl
theorem self_StopIteration : isSubtype (.type "StopIteration") (.type "StopIteration") = pure true := by rw [isSubtype_type]; kernel_rfl
section
variable {w : World} {E : Value → Shared → Prop} {s' : Shared} {base g G : Heap} {outer : List Env} {L a e : Addr} {m : PySem.Str → Option Value} {name : PySem.Str} {scope : Scope} {cd : Value} {dp un : Nat} {gd : Option (List Code)} {cn : PySem.Str} {cs : Scope} {Lc ac : Addr} {ccd : Value} {clc : List (PySem.Str × Addr)}
  {b₀ : Stmt} {suite : List Stmt} {pos np : Pos} {hs : List ExceptHandler} {Q : Flow → Shared → Prop} {news : List (Addr × Obj)} {mean : ExcName → Option Value} {mg mb : PySem.Str → Option Value}
theorem catch_stop (R : RaisedSN base G (envX name scope L a cd [] :: [envX cn cs Lc ac ccd clc]) e (.type "StopIteration") news s'.heap) (F : Fr g L G m) (K : Below (ktrTop dp un gd cn cs Lc ac ccd clc []) base [envX cn cs Lc ac ccd clc] g) (hsm : G.UpToSlots s'.heap) (XB : (K01 w.params).In base) (TB : Top topProg looseQ mean mg mb base)
    (D : KtsDicts ([envX cn cs Lc ac ccd clc].filterMap (·.frame)) g)
    (hk : scope.kind = .function) (hx : (envX name scope L a cd []).kindOf (PySem.Str.ofString "StopIteration") = some .globalImplicit)
    (k : ∀ h' g', KtsTurn ([envX cn cs Lc ac ccd clc].filterMap (·.frame)) g g' → Fr g' L h' m → News g' L h' news → Below (ktrTop dp un gd cn cs Lc ac ccd clc []) base [envX cn cs Lc ac ccd clc] g' → (K01 w.params).In g' → Top topProg looseQ mean mg mb g' →
      wpAny (model P1 w) ((ktrTop (dp + 1) (un + 3) gd name scope L a cd [] [envX cn cs Lc ac ccd clc]).mark (some (.ref e))) (execs (b₀ :: suite) (envX name scope L a cd [])) Q noE { s' with heap := h' }) :
    wpAny (model P1 w) (ktrTop (dp + 1) (un + 3) gd name scope L a cd [] [envX cn cs Lc ac ccd clc]) (noteFrame (.ref e) (envX name scope L a cd []))
      (fun _ s₂ => wpAny (model P1 w) (ktrTop (dp + 1) (un + 3) gd name scope L a cd [] [envX cn cs Lc ac ccd clc]) (setFlight (.ref e) none) (fun _ s₃ =>
        wpAny (model P1 w) (ktrTop (dp + 1) (un + 3) gd name scope L a cd [] [envX cn cs Lc ac ccd clc]) (handleBy (.ref e) (envX name scope L a cd []) (.ExceptHandler (some (.Name (PySem.Str.ofString "StopIteration") np)) none (b₀ :: suite) pos :: hs)) Q noE s₃) noE s₂) noE s' :=
  caught_SN0 (A₀ := ktrTop dp un gd cn cs Lc ac ccd clc []) (T' := "StopIteration") R F K hsm XB TB D KtsTurn.refl (by kernel_rfl) PyProof.Rows.Boot.«StopIteration» (by decide) isExc_StopIteration notTuple_StopIteration self_StopIteration
    (fun h' g' t F' N' K' X' T' _ => k h' g' t F' N' K' X' T') hk hx (by decide) (fun _ _ h => h.elim)
end
noncomputable def TopH (w : World) (f : Addr) (qual : PySem.Str) (body : List Stmt) (scope : Scope) (cdv : Value) (binds : List (PySem.Str × Value)) (d u : Nat) (E₀ : List (Addr × Obj)) (Post : Value → List (Addr × Obj) → Prop)
    (mean : ExcName → Option Value) (mg mb : PySem.Str → Option Value) (dp un : Nat) (gd : Option (List Code)) (cn : PySem.Str) (cs : Scope) (Lc a : Addr) (ccd : Value) (clc : List (PySem.Str × Addr)) (base g : Heap) (L : Addr) (h₁ : Heap) (rest : List (Addr × Obj)) (s : Shared) (tk : Nat) : Prop :=
  Below (ktrTop dp un gd cn cs Lc a ccd clc []) base [envX cn cs Lc a ccd clc] g → (K01 w.params).In g → Top topProg looseQ mean mg mb g → (K01 w.params).In base → Top topProg looseQ mean mg mb base → KtsDicts ([envX cn cs Lc a ccd clc].filterMap (·.frame)) g →
      Fr g L h₁ (fun y => binds.reverse.lookup y) → News g L h₁ (E₀ ++ rest) → (∀ p ∈ rest, ∀ q ∈ E₀, p.1 ≠ q.1) → dp + d < recursionLimit → un + u < cLine →
      wpAny (model P1 w) (ktrTop (dp + 1) (un + 3) gd qual scope L f cdv [] [envX cn cs Lc a ccd clc]) (execs body (envX qual scope L f cdv [])) (fun fl s' => BackTop ([envX cn cs Lc a ccd clc].filterMap (·.frame)) E₀ g s rest Post (match fl with | .ret v => v | _ => .none) s') noE { s with heap := h₁, toks := tk }
end
section
local macro_rules | `(tactic| walk_at "execs cons") => `(tactic| k_fold)
local macro_rules | `(tactic| walk_at $s:str) => if ["exec While", "exec While Constant", "exec While Constant cons nil", "exec For Name Call cons nil", "pyIter ref", "call ref", "call builtin:iter", "call builtin:divmod"].contains s.getString then `(tactic| (refine stopHere ?_)) else Lean.Macro.throwUnsupported
local macro_rules | `(tactic| walk_at "exec Try") => `(tactic| (refine wpAny_Try_except ?_))
theorem again_sep {X : Lx} (hX : X.Ok) {w : World} {line : Int} {tl : Tok} {yl : Value} {sv ps : List Value} {k kp : Nat} {rest : List (Addr × Obj)} {al I tp : Addr} {o oI oT : Obj}
    (h1 : @LT.lt Nat _ X.pb tp) (h2 : @LT.lt Nat _ tp I) (h3 : @LT.lt Nat _ I al) (hr : ∀ p ∈ rest, @LT.lt Nat _ p.1 I) (hs : ∀ p ∈ rest, p.1 ≠ tp) :
    ∀ p ∈ (al, o) :: (X.led w line tl yl sv k ps kp ++ rest), ∀ q ∈ [(I, oI), (tp, oT)], p.1 ≠ q.1 := by
  intro p hp q hq
  have : @Ne Nat p.1 I ∧ @Ne Nat p.1 tp := by
    rcases List.mem_cons.mp hp with rfl | hp
    · dsimp only; omega
    · rcases List.mem_append.mp hp with hp | hp
      · have := hX.led_le p hp; omega
      · have := hr p hp; exact ⟨by omega, hs p hp⟩
  simp only [List.mem_cons, List.not_mem_nil, or_false] at hq
  rcases hq with rfl | rfl
  · exact this.1
  · exact this.2
theorem dec_all {ws : List PySem.Str} {q : Nat} {pc : Nat × Nat} (hq : q + pc.1 ≤ ws.length) (hp : IsPiece (rowOf ws).2 q pc) (h0 : 0 < pc.1) : ∀ st, st ≤ pc.1 → namesOf (ws.take (q + st)) = namesOf (ws.take q)
  | 0, _ => rfl
  | st + 1, h => by rw [← dec_all hq hp h0 st (by omega)]; exact (dec_old hq hp h0 (by omega)).2.2.2
theorem perm_a1 {a i t : Addr × Obj} {R : List (Addr × Obj)} : ∀ p ∈ i :: t :: a :: R, p ∈ a :: i :: t :: R := fun p hp => by
  rcases List.mem_cons.mp hp with h | h
  · exact h ▸ .tail _ (.head _)
  · rcases List.mem_cons.mp h with h | h
    · exact h ▸ .tail _ (.tail _ (.head _))
    · rcases List.mem_cons.mp h with h | h
      · exact h ▸ .head _
      · exact .tail _ (.tail _ (.tail _ h))
theorem perm_a2 {a t : Addr × Obj} {R : List (Addr × Obj)} : ∀ p ∈ a :: t :: R, p ∈ t :: a :: R := fun p hp => by
  rcases List.mem_cons.mp hp with h | h
  · exact h ▸ .tail _ (.head _)
  · rcases List.mem_cons.mp h with h | h
    · exact h ▸ .head _
    · exact .tail _ (.tail _ h)
theorem perm_a4 {a b c d : Addr × Obj} {led R : List (Addr × Obj)} : ∀ p ∈ led ++ a :: b :: c :: d :: R, p ∈ a :: b :: c :: d :: (led ++ R) := fun p hp => by
  rcases List.mem_append.mp hp with h | h
  · exact .tail _ (.tail _ (.tail _ (.tail _ (List.mem_append_left _ h))))
  · rcases List.mem_cons.mp h with h | h
    · exact h ▸ .head _
    · rcases List.mem_cons.mp h with h | h
      · exact h ▸ .tail _ (.head _)
      · rcases List.mem_cons.mp h with h | h
        · exact h ▸ .tail _ (.tail _ (.head _))
        · rcases List.mem_cons.mp h with h | h
          · exact h ▸ .tail _ (.tail _ (.tail _ (.head _)))
          · exact .tail _ (.tail _ (.tail _ (.tail _ (List.mem_append_right _ h))))
theorem perm_a5 {a b c d : Addr × Obj} {led R : List (Addr × Obj)} : ∀ p ∈ a :: b :: c :: d :: (led ++ R), p ∈ led ++ a :: b :: c :: d :: R := fun p hp => by
  rcases List.mem_cons.mp hp with h | h
  · exact h ▸ List.mem_append_right _ (.head _)
  · rcases List.mem_cons.mp h with h | h
    · exact h ▸ List.mem_append_right _ (.tail _ (.head _))
    · rcases List.mem_cons.mp h with h | h
      · exact h ▸ List.mem_append_right _ (.tail _ (.tail _ (.head _)))
      · rcases List.mem_cons.mp h with h | h
        · exact h ▸ List.mem_append_right _ (.tail _ (.tail _ (.tail _ (.head _))))
        · rcases List.mem_append.mp h with h | h
          · exact List.mem_append_left _ h
          · exact List.mem_append_right _ (.tail _ (.tail _ (.tail _ (.tail _ h))))
theorem led_ne {X : Lx} (hX : X.Ok) {w line tl yl sv k ps kp} {b : Addr} {rest : List (Addr × Obj)} (h : @LT.lt Nat _ X.pb b) (hr : ∀ p ∈ rest, @LT.lt Nat _ p.1 b) : ∀ p ∈ X.led w line tl yl sv k ps kp ++ rest, p.1 ≠ b := fun p hp => by
  rcases List.mem_append.mp hp with hp | hp
  · exact hX.nine (.inr h) p hp
  · exact Nat.ne_of_lt (hr p hp)
set_option genSizeOf false in
set_option genInjectivity false in
structure AD where
  (psd psr : List (Nat × Nat)) (j : Nat) (oJ : Obj) (av pv' : List Value) (kv kp' : Nat)
structure AF (X : Lx) (ws : List PySem.Str) (ps : List (Nat × Nat)) (os : List Nat) (base0 : Nat) (tb : Tok) (tp al I : Addr) (d : AD) (m₁ : PySem.Str → Option Value) : Prop where
  hps1 : ps = d.psd ++ d.psr
  hdj : os.drop d.j = tapeOf base0 d.psr
  hJ : LiAt d.oJ tp d.j
  j1 : m₁ (PySem.Str.ofString "again") = some (.ref al)
  j2 : m₁ (PySem.Str.ofString "octets") = some (.ref I)
  j3 : m₁ (PySem.Str.ofString "base") = some (.int (base0 : Int) tb)
  j4 : m₁ (PySem.Str.ofString "lexer") = some (.ref X.x)
  hav : StrsAre d.av (ws.take (sumTo d.psd))
  hpv' : StrsAre d.pv' ((namesOf ws).drop (namesOf (ws.take (sumTo d.psd))).length)
namespace NAg
noncomputable def G (w : World) (X : Lx) (tp : Addr) (ws : List PySem.Str) (ps : List (Nat × Nat)) (base0 : Nat) (tb : Tok) (tv : List Value) (sv : List Value) (pv : List Value) (k : Nat) (kt : Nat) (kp : Nat) (line : Int) (tl : Tok) (yl : Value) (mean : ExcName → Option Value) (mg : PySem.Str → Option Value) (mb : PySem.Str → Option Value) (dp : Nat) (un : Nat) (gd : Option (List Code)) (cn : PySem.Str) (cs : Scope) (Lc : Addr) (a : Addr) (ccd : Value) (clc : List (PySem.Str × Addr)) (base : Heap) (g : Heap) (L : Addr) (h₁ : Heap) (rest : List (Addr × Obj)) (s : Shared) (tk : Nat) : Prop :=
  (X.Ok) → (IntsAre tv ((tapeOf base0 ps).map Int.ofNat)) → (Pieces (rowOf ws).2 ps (rowOf ws).2.length) → (ws.length < 60) → (64 ≤ base0) → (base0 < 100000) → (tv.length < 10000) → (StrsAre pv (namesOf ws)) → (@LT.lt Nat _ X.pb tp) → TopH w 206 (PySem.Str.ofString "_law_again") bd21 sc21 (.ref 205) [(PySem.Str.ofString "tape", .ref tp), (PySem.Str.ofString "base", .int (base0 : Int) tb), (PySem.Str.ofString "lexer", .ref X.x)] 60 600 (((tp, listOf tv.toArray kt) :: X.led w line tl yl sv k pv kp)) (fun r E' => ∃ l' av k' kp', r = .ref l' ∧ @LT.lt Nat _ tp l' ∧ StrsAre av ws ∧ E' = (l', listOf av.toArray k') :: (tp, listOf tv.toArray kt) :: X.led w line tl yl sv k [] kp') mean mg mb dp un gd cn cs Lc a ccd clc base g L h₁ rest s tk
noncomputable abbrev D : Type := (World) × (Lx) × (Addr) × (List PySem.Str) × (List (Nat × Nat)) × (Nat) × (Tok) × (List Value) × (List Value) × (List Value) × (Nat) × (Nat) × (Nat) × (Int) × (Tok) × (Value) × (ExcName → Option Value) × (PySem.Str → Option Value) × (PySem.Str → Option Value) × (Nat) × (Nat) × (Option (List Code)) × (PySem.Str) × (Scope) × (Addr) × (Addr) × (Value) × (List (PySem.Str × Addr)) × (Heap) × (Heap) × (Addr) × (Heap) × (List (Addr × Obj)) × (Shared) × (Nat)
theorem ne : Nonempty D := ⟨⟨w0, { c := 0, sg := 0, cd := 0, f := 0, dy := 0, y := 0, ypb := 0, dx := 0, x := 0, pb := 0, t1 := 0, t2 := 0, t3 := 0, t3' := 0, t4 := 0, u1 := 0, u2 := 0, u3 := 0, u3' := 0, u4 := 0, u5 := 0, lt0 := 0, qual := default, doc := .none, pm := .none, ctv := .none, oc := default, ocell := default, vs := #[], tq := 0, nm := default, pa := default, bo := [], sc := default }, 0, [], [], 0, 0, [], [], [], 0, 0, 0, 0, 0, .none, fun _ => none, fun _ => none, fun _ => none, 0, 0, none, default, default, 0, 0, .none, [], default, default, 0, default, [], {}, 0⟩⟩
noncomputable abbrev H (d : D) : Prop := G d.1 d.2.1 d.2.2.1 d.2.2.2.1 d.2.2.2.2.1 d.2.2.2.2.2.1 d.2.2.2.2.2.2.1 d.2.2.2.2.2.2.2.1 d.2.2.2.2.2.2.2.2.1 d.2.2.2.2.2.2.2.2.2.1 d.2.2.2.2.2.2.2.2.2.2.1 d.2.2.2.2.2.2.2.2.2.2.2.1 d.2.2.2.2.2.2.2.2.2.2.2.2.1 d.2.2.2.2.2.2.2.2.2.2.2.2.2.1 d.2.2.2.2.2.2.2.2.2.2.2.2.2.2.1 d.2.2.2.2.2.2.2.2.2.2.2.2.2.2.2.1 d.2.2.2.2.2.2.2.2.2.2.2.2.2.2.2.2.1 d.2.2.2.2.2.2.2.2.2.2.2.2.2.2.2.2.2.1 d.2.2.2.2.2.2.2.2.2.2.2.2.2.2.2.2.2.2.1 d.2.2.2.2.2.2.2.2.2.2.2.2.2.2.2.2.2.2.2.1 d.2.2.2.2.2.2.2.2.2.2.2.2.2.2.2.2.2.2.2.2.1 d.2.2.2.2.2.2.2.2.2.2.2.2.2.2.2.2.2.2.2.2.2.1 d.2.2.2.2.2.2.2.2.2.2.2.2.2.2.2.2.2.2.2.2.2.2.1 d.2.2.2.2.2.2.2.2.2.2.2.2.2.2.2.2.2.2.2.2.2.2.2.1 d.2.2.2.2.2.2.2.2.2.2.2.2.2.2.2.2.2.2.2.2.2.2.2.2.1 d.2.2.2.2.2.2.2.2.2.2.2.2.2.2.2.2.2.2.2.2.2.2.2.2.2.1 d.2.2.2.2.2.2.2.2.2.2.2.2.2.2.2.2.2.2.2.2.2.2.2.2.2.2.1 d.2.2.2.2.2.2.2.2.2.2.2.2.2.2.2.2.2.2.2.2.2.2.2.2.2.2.2.1 d.2.2.2.2.2.2.2.2.2.2.2.2.2.2.2.2.2.2.2.2.2.2.2.2.2.2.2.2.1 d.2.2.2.2.2.2.2.2.2.2.2.2.2.2.2.2.2.2.2.2.2.2.2.2.2.2.2.2.2.1 d.2.2.2.2.2.2.2.2.2.2.2.2.2.2.2.2.2.2.2.2.2.2.2.2.2.2.2.2.2.2.1 d.2.2.2.2.2.2.2.2.2.2.2.2.2.2.2.2.2.2.2.2.2.2.2.2.2.2.2.2.2.2.2.1 d.2.2.2.2.2.2.2.2.2.2.2.2.2.2.2.2.2.2.2.2.2.2.2.2.2.2.2.2.2.2.2.2.1 d.2.2.2.2.2.2.2.2.2.2.2.2.2.2.2.2.2.2.2.2.2.2.2.2.2.2.2.2.2.2.2.2.2.1 d.2.2.2.2.2.2.2.2.2.2.2.2.2.2.2.2.2.2.2.2.2.2.2.2.2.2.2.2.2.2.2.2.2.2
@[irreducible] noncomputable def d : D := @Classical.epsilon D ne fun d => ¬ H d
@[irreducible] noncomputable def w : World := d.1
@[irreducible] noncomputable def X : Lx := d.2.1
@[irreducible] noncomputable def tp : Addr := d.2.2.1
@[irreducible] noncomputable def ws : List PySem.Str := d.2.2.2.1
@[irreducible] noncomputable def ps : List (Nat × Nat) := d.2.2.2.2.1
@[irreducible] noncomputable def base0 : Nat := d.2.2.2.2.2.1
@[irreducible] noncomputable def tb : Tok := d.2.2.2.2.2.2.1
@[irreducible] noncomputable def tv : List Value := d.2.2.2.2.2.2.2.1
@[irreducible] noncomputable def sv : List Value := d.2.2.2.2.2.2.2.2.1
@[irreducible] noncomputable def pv : List Value := d.2.2.2.2.2.2.2.2.2.1
@[irreducible] noncomputable def k : Nat := d.2.2.2.2.2.2.2.2.2.2.1
@[irreducible] noncomputable def kt : Nat := d.2.2.2.2.2.2.2.2.2.2.2.1
@[irreducible] noncomputable def kp : Nat := d.2.2.2.2.2.2.2.2.2.2.2.2.1
@[irreducible] noncomputable def line : Int := d.2.2.2.2.2.2.2.2.2.2.2.2.2.1
@[irreducible] noncomputable def tl : Tok := d.2.2.2.2.2.2.2.2.2.2.2.2.2.2.1
@[irreducible] noncomputable def yl : Value := d.2.2.2.2.2.2.2.2.2.2.2.2.2.2.2.1
@[irreducible] noncomputable def mean : ExcName → Option Value := d.2.2.2.2.2.2.2.2.2.2.2.2.2.2.2.2.1
@[irreducible] noncomputable def mg : PySem.Str → Option Value := d.2.2.2.2.2.2.2.2.2.2.2.2.2.2.2.2.2.1
@[irreducible] noncomputable def mb : PySem.Str → Option Value := d.2.2.2.2.2.2.2.2.2.2.2.2.2.2.2.2.2.2.1
@[irreducible] noncomputable def dp : Nat := d.2.2.2.2.2.2.2.2.2.2.2.2.2.2.2.2.2.2.2.1
@[irreducible] noncomputable def un : Nat := d.2.2.2.2.2.2.2.2.2.2.2.2.2.2.2.2.2.2.2.2.1
@[irreducible] noncomputable def gd : Option (List Code) := d.2.2.2.2.2.2.2.2.2.2.2.2.2.2.2.2.2.2.2.2.2.1
@[irreducible] noncomputable def cn : PySem.Str := d.2.2.2.2.2.2.2.2.2.2.2.2.2.2.2.2.2.2.2.2.2.2.1
@[irreducible] noncomputable def cs : Scope := d.2.2.2.2.2.2.2.2.2.2.2.2.2.2.2.2.2.2.2.2.2.2.2.1
@[irreducible] noncomputable def Lc : Addr := d.2.2.2.2.2.2.2.2.2.2.2.2.2.2.2.2.2.2.2.2.2.2.2.2.1
@[irreducible] noncomputable def a : Addr := d.2.2.2.2.2.2.2.2.2.2.2.2.2.2.2.2.2.2.2.2.2.2.2.2.2.1
@[irreducible] noncomputable def ccd : Value := d.2.2.2.2.2.2.2.2.2.2.2.2.2.2.2.2.2.2.2.2.2.2.2.2.2.2.1
@[irreducible] noncomputable def clc : List (PySem.Str × Addr) := d.2.2.2.2.2.2.2.2.2.2.2.2.2.2.2.2.2.2.2.2.2.2.2.2.2.2.2.1
@[irreducible] noncomputable def base : Heap := d.2.2.2.2.2.2.2.2.2.2.2.2.2.2.2.2.2.2.2.2.2.2.2.2.2.2.2.2.1
@[irreducible] noncomputable def g : Heap := d.2.2.2.2.2.2.2.2.2.2.2.2.2.2.2.2.2.2.2.2.2.2.2.2.2.2.2.2.2.1
@[irreducible] noncomputable def L : Addr := d.2.2.2.2.2.2.2.2.2.2.2.2.2.2.2.2.2.2.2.2.2.2.2.2.2.2.2.2.2.2.1
@[irreducible] noncomputable def h₁ : Heap := d.2.2.2.2.2.2.2.2.2.2.2.2.2.2.2.2.2.2.2.2.2.2.2.2.2.2.2.2.2.2.2.1
@[irreducible] noncomputable def rest : List (Addr × Obj) := d.2.2.2.2.2.2.2.2.2.2.2.2.2.2.2.2.2.2.2.2.2.2.2.2.2.2.2.2.2.2.2.2.1
@[irreducible] noncomputable def s : Shared := d.2.2.2.2.2.2.2.2.2.2.2.2.2.2.2.2.2.2.2.2.2.2.2.2.2.2.2.2.2.2.2.2.2.1
@[irreducible] noncomputable def tk : Nat := d.2.2.2.2.2.2.2.2.2.2.2.2.2.2.2.2.2.2.2.2.2.2.2.2.2.2.2.2.2.2.2.2.2.2
set_option maxRecDepth 100000 in
set_option maxHeartbeats 4000000 in
theorem core : mark PySem.Challenge.rw_us0019_01 K01 (G w X tp ws ps base0 tb tv sv pv k kt kp line tl yl mean mg mb dp un gd cn cs Lc a ccd clc base g L h₁ rest s tk) := by
  k_fill
  unfold mark G TopH
  (try dsimp only [pa21, bd21, sc21])
  intro hX hI hps hlen hb hb1 htl hpv htp
  intro B K T XB TB D F N hsep hd hu
  obtain ⟨R0, hR0⟩ : ∃ R0, R0 = X.led w line tl yl sv k pv kp ++ rest := ⟨_, rfl⟩
  replace N : News g L h₁ ((tp, listOf tv.toArray kt) :: R0) := by subst hR0; exact N
  have XT : Stop ((K01 w.params).In base ∧ Top topProg looseQ mean mg mb base) := ⟨XB, TB⟩
  clear XB TB
  k_steps
  unfold Stop
  refine iter_led (by assumption) (by assumption) (.head _) ?_
  intro I h' oI F' N' hlt hi
  clear F N
  k_steps
  unfold Stop
  rename_i al _ l1 _ _ _
  rename Fr _ _ _ _ => F9
  rename News _ _ _ _ => N9
  have htI : tp ≠ I := Nat.ne_of_lt (hlt _ (.head _))
  have hpI : @LT.lt Nat _ X.pb I := hlt (X.pb, listOf pv.toArray kp) (.tail _ (by subst hR0; exact List.mem_append_left _ Lx.pb_mem))
  have hIa : @LT.lt Nat _ I al := l1.1
  have htI' : @LT.lt Nat _ tp I := hlt _ (.head _)
  have hrI : ∀ p ∈ rest, @LT.lt Nat _ p.1 I := fun p hp => hlt p (.tail _ (by subst hR0; exact List.mem_append_right _ hp))
  have hra : ∀ p ∈ rest, @LT.lt Nat _ p.1 al := fun p hp => Nat.lt_trans (hrI p hp) hIa
  have hpa : @LT.lt Nat _ X.pb al := Nat.lt_trans hpI hIa
  have hta : @LT.lt Nat _ tp al := Nat.lt_trans htI' hIa
  have hrt : ∀ p ∈ rest, p.1 ≠ tp := fun p hp => hsep p hp _ (.head _)
  have hrX : X.Sep rest := Lx.sep_of fun p hp q hq => hsep p hp q (.tail _ hq)
  have hsm : ∀ c ∈ tapeOf base0 ps, c < 128 := tape_small base0 ps
  have hol : (tapeOf base0 ps).length < 10000 := by have := hI.length; rw [List.length_map] at this; omega
  generalize hos : tapeOf base0 ps = os at *
  refine While_inv (fun z m₁ news₁ => ∃ d : AD, z = d.psr.length ∧ AF X ws ps os base0 tb tp al I d m₁ ∧ news₁ = (al, listOf d.av.toArray d.kv) :: (I, d.oJ) :: (tp, listOf tv.toArray kt) :: (X.led w line tl yl sv k d.pv' d.kp' ++ rest)) (n₀ := ps.length) F9 (news_sub N9 (by subst hR0; exact fun _ h => h)) ?start ?turn ?own
  case own => passes_own
  case start => exact ⟨⟨[], ps, 0, oI, [], pv, 0, kp⟩, rfl, ⟨rfl, hos.symm, hi, rfl, rfl, rfl, rfl, .nil, hpv⟩, rfl⟩
  case turn =>
    clear hR0 hlt
    rintro z m₁ news₁ h₁ tk₁ F₁ N₁ hI9
    try k_fold
    refine pack fun G9 hG9 => ?_
    obtain ⟨⟨psd, psr, j, oJ, av, pv', kv, kp'⟩, rfl, ⟨hps1, hdj, hJ, j1, j2, j3, j4, hav, hpv'⟩, rfl⟩ := hI9
    refine hG9 ?_
    clear hG9
    dsimp only at *
    clear F9 N9
    rw [nm1 j4, under (nm1 j3), under (under (nm1 j2)), under (under (under (nm1 j1)))] at F₁
    obtain ⟨R8, hR8⟩ : ∃ R8, R8 = X.led w line tl yl sv k pv' kp' ++ rest := ⟨_, rfl⟩
    have hR8al : ∀ p ∈ R8, p.1 ≠ al := by subst hR8; exact led_ne hX hpa hra
    rw [← hR8] at N₁
    cases psr with
    | nil =>
      k_steps
      unfold Stop
      have hx : tv[j]? = none := by
        have h9 : os.drop j = [] := hdj
        have h8 := List.drop_eq_nil_iff.mp h9
        rw [List.getElem?_eq_none_iff, hI.length, List.length_map]
        exact h8
      refine stop_use (varint_stop (w := w) (k := kt) hJ hx htI) ((al, listOf av.toArray kv) :: R8) B (by assumption) K (by assumption) T rfl (by omega) (by omega) perm_a1 ?sep ?_
      case sep => subst hR8; exact again_sep hX htp htI' hIa hrI hrt
      intro e G h' tk' FG R hsm'
      refine catch_stop R FG B hsm' XT.1 XT.2 D rfl rfl ?_
      intro h2 g2 T2 F2 N2 B2 K2 P2
      clear F₁ N₁ B K T FG
      k_steps
      dsimp only
      have hall : sumTo ps = ws.length := by rw [(pieces_cuts hps).1, row_len]
      have hpsd : psd = ps := by rw [hps1, List.append_nil]
      subst hpsd
      rw [hall, List.take_length] at hav hpv'
      rw [List.drop_length] at hpv'
      cases hpv'
      refine BackTop.intro ((al, listOf av.toArray kv) :: (tp, listOf tv.toArray kt) :: X.led w line tl yl sv k [] kp') T2 (by assumption) (news_sub (by assumption) ?_) ?post (NewOk.cons ?_ (NewOk.same rfl))
      case post => exact ⟨al, av, kv, kp', rfl, Nat.lt_trans htI' hIa, hav, rfl⟩
      · subst hR8; exact perm_a2
      · intro q hq
        rcases List.mem_append.mp hq with hq | hq
        · rcases List.mem_cons.mp hq with rfl | hq
          · exact hta
          · exact Nat.lt_of_le_of_lt (hX.led_le q hq) hpa
        · exact hra q hq
    | cons pc b =>
      k_steps
      unfold Stop
      have hrd : vread (os.drop j) = some (pc.1 * base0 + pc.2, tapeOf base0 b) := by rw [hdj]; exact tape_read
      refine spec_use (varint (w := w) (k := kt) hJ htI hI hsm hol hrd) ((al, listOf av.toArray kv) :: R8) B (by assumption) K (by assumption) T rfl (by omega) (by omega) perm_a1 ?sep2 ?_
      case sep2 => subst hR8; exact again_sep hX htp htI' hIa hrI hrt
      rintro r E' h' tk' hI9 F' N' hn'
      try k_fold
      refine pack fun G9 hG9 => ?_
      obtain ⟨oJ', j', t, hJ', hdj', rfl, rfl⟩ := hI9
      refine hG9 ?_
      clear hG9
      k_steps
      unfold Stop
      try clear F₁ N₁
      rename Fr _ _ _ _ => F2
      rename News _ _ _ _ => N2
      refine pack fun G9 hG9 => ?_
      obtain ⟨hP1, hP2, hP3⟩ := pieces_at hps hps1
      refine hG9 ?_
      clear hG9
      have hfit := piece_fits hP3 hP2
      rw [row_len] at hP3 hfit
      have hpc2 : pc.2 < base0 := by rcases hP2.2 with ⟨_, h⟩ | ⟨_, _, h, _⟩ <;> omega
      have e1 : (pc.1 * base0 + pc.2) / base0 = pc.1 := by
        rw [Nat.add_comm, Nat.add_mul_div_right _ _ (by omega), Nat.div_eq_of_lt hpc2, Nat.zero_add]
      have e2 : (pc.1 * base0 + pc.2) % base0 = pc.2 := by
        rw [Nat.add_comm, Nat.add_mul_mod_self_right, Nat.mod_eq_of_lt hpc2]
      simp only [List.cons_append, List.nil_append] at N2
      refine divmod_N F2 N2 (by omega) ?_
      intro h3 F3 N3
      dsimp only at N3 ⊢
      have hDal : @LT.lt Nat _ al h'.objs.size := Heap.lt_size (N2 _ (.tail _ (.tail _ (.head _)))).1
      clear F2 N2
      rw [fdivN, fmodN, e1, e2] at N3
      generalize h'.objs.size = Dv at *
      generalize hq : sumTo psd = q at *
      by_cases h0 : pc.1 = 0
      · obtain ⟨d1, d2⟩ := dec_new hP3 hP2 h0
        obtain ⟨tx, pv2, e9, hpv2⟩ : ∃ tx pv2, pv' = .str ws[q] tx :: pv2 ∧ StrsAre pv2 ((namesOf ws).drop (namesOf (ws.take (q + 1))).length) := by
          rw [d2] at hpv'
          cases hpv' with
          | cons x t h => exact ⟨_, _, rfl, h⟩
        rw [e9] at hR8
        obtain ⟨R7, hR7⟩ : ∃ R7, R7 = X.bk w yl sv k (.str ws[q] tx :: pv2) kp' ++ rest := ⟨_, rfl⟩
        replace N3 := news_sub (l' := (Dv, { cls := .type "tuple", data := .seq #[.int (pc.1 : Int) tk', .int (pc.2 : Int) (tk' + 1)] }) :: (I, oJ') :: (tp, listOf tv.toArray kt) :: (al, listOf av.toArray kv) :: (X.hd w line tl ++ R7)) N3 (by subst hR7 hR8; exact fun _ h => h)
        simp only [Lx.hd, List.cons_append, List.nil_append] at N3
        have hav9 : av.length < 1000 := by have := hav.length; rw [List.length_take] at this; omega
        have hpv9 : pv2.length < 1000 := by
          have h1 := hpv2.length
          rw [List.length_drop] at h1
          have h2 := (rowOf_len _ ws rfl).1
          have h3 : (namesOf ws).length = (rowOf ws).1.length := rfl
          omega
        k_steps
        all_goals try (exfalso; omega)
        · unfold Stop
          rename Fr _ _ _ _ => F4
          rename News _ _ _ _ => N4
          have hz : X.Sep ((Dv, { cls := .type "tuple", data := .seq #[.int (pc.1 : Int) tk', .int (pc.2 : Int) (tk' + 1)] }) :: (I, oJ') :: (tp, listOf tv.toArray kt) :: (al, listOf av.toArray kv) :: rest) :=
            (((hrX.cons (hX.above (by omega))).cons (hX.above htp)).cons (hX.above hpI)).cons (hX.above (by omega))
          refine spec_use (get_pushed (w := w) X hX (sv := sv) (ps := pv2) (k := k) (kp := kp') (line := line) (tl := tl) (yl := yl) (v := .str ws[q] tx) hpv9) ((Dv, { cls := .type "tuple", data := .seq #[.int (pc.1 : Int) tk', .int (pc.2 : Int) (tk' + 1)] }) :: (I, oJ') :: (tp, listOf tv.toArray kt) :: (al, listOf av.toArray kv) :: rest) B F4 K N4 T rfl (by omega) (by omega) (by subst hR7; exact perm_a4) hz.led ?_
          intro r E' h5 tk5 hPk1 F5 N5 hn5
          refine pack fun G9 hG9 => ?_
          obtain ⟨kp2, rfl, rfl⟩ := hPk1
          refine hG9 ?_
          clear hG9
          clear F4 N4
          obtain ⟨R6, hR6⟩ : ∃ R6, R6 = X.led w line tl yl sv k pv2 kp2 ++ rest := ⟨_, rfl⟩
          have hR6al : ∀ p ∈ R6, p.1 ≠ al := by subst hR6; exact led_ne hX hpa hra
          replace N5 := news_sub (l' := (Dv, { cls := .type "tuple", data := .seq #[.int (pc.1 : Int) tk', .int (pc.2 : Int) (tk' + 1)] }) :: (I, oJ') :: (tp, listOf tv.toArray kt) :: (al, listOf av.toArray kv) :: R6) N5 (by subst hR6; exact perm_a5)
          k_steps
          unfold Stop
          rename Fr _ _ _ _ => F6
          rename News _ _ _ _ => N6
          rw [List.push_toArray] at N6
          refine wpAny_mono (For_it ?_) (fun _ _ q => q) (fun _ _ e => e.elim)
          k_steps
          unfold Stop
          rename IsRange _ _ _ _ _ _ _ _ => hr9
          rename Fr _ _ _ _ => F7
          rename News _ _ _ _ => N7
          refine range_loop pc.1 (fun i m nl => m (PySem.Str.ofString "again") = some (.ref al) ∧ m (PySem.Str.ofString "octets") = some (.ref I) ∧ m (PySem.Str.ofString "base") = some (.int (base0 : Int) tb) ∧ m (PySem.Str.ofString "lexer") = some (.ref X.x) ∧
            nl = (al, listOf (av ++ [Value.str ws[q] tx]).toArray (kv + 1)) :: (I, oJ') :: (tp, listOf tv.toArray kt) :: R6) rfl hr9 (range_small (by omega) (by omega)) (range_size1 (by omega)) F7
            (news_sub N7 (l' := (al, listOf (av ++ [Value.str ws[q] tx]).toArray (kv + 1)) :: (I, oJ') :: (tp, listOf tv.toArray kt) :: R6) (by (((try simp only [List.cons_append, List.nil_append]); refine (?_ : HintTo _ _ _ _) (by repeat' (with_reducible (first | exact pkA | apply pkB | apply pkC | exact pkD | apply pkE | exact pkF | apply pkG))); exact fun _ => sub_pick rfl)))) ⟨rfl, rfl, rfl, rfl, rfl⟩ ?turn1 ?done1
          case turn1 => intro i _ _ _ _ _ _ _ hi; exact absurd hi (by rw [h0]; exact Nat.not_lt_zero i)
          case done1 =>
            rintro h tk m nl hI9 F N
            try k_fold
            refine pack fun G9 hG9 => ?_
            obtain ⟨c1, c2, c3, c4, rfl⟩ := hI9
            refine hG9 ?_
            clear hG9
            clear F7 N7
            k_steps
            have htk : ws.take (q + 1) = ws.take q ++ [ws[q]] := by rw [List.take_add_one, List.getElem?_eq_getElem hP3]; rfl
            have hq1 : sumTo (psd ++ [pc]) = q + 1 := by rw [sum_snoc, hq, h0]; rfl
            refine WhileStep.intro (n' := b.length) F N (by simp) ⟨⟨psd ++ [pc], b, j', oJ', _, pv2, kv + 1, kp2⟩, rfl, ⟨by rw [hps1]; simp, hdj', hJ', c1, c2, c3, c4, ?_, ?_⟩, by subst hR6; rfl⟩
            · rw [hq1, htk]; exact strsAre_snoc hav
            · rw [hq1]; exact hpv2
      · have hav9 : av.length < 1000 := by have := hav.length; rw [List.length_take] at this; omega
        k_steps
        all_goals try (exfalso; omega)
        · unfold Stop
          rename Fr _ _ _ _ => F6
          rename News _ _ _ _ => N6
          refine wpAny_mono (For_it ?_) (fun _ _ q => q) (fun _ _ e => e.elim)
          k_steps
          unfold Stop
          rename IsRange _ _ _ _ _ _ _ _ => hr9
          rename Fr _ _ _ _ => F7
          rename News _ _ _ _ => N7
          refine range_loop pc.1 (fun i m nl => ∃ (av' : List Value) (kv' : Nat), m (PySem.Str.ofString "again") = some (.ref al) ∧ m (PySem.Str.ofString "octets") = some (.ref I) ∧ m (PySem.Str.ofString "base") = some (.int (base0 : Int) tb) ∧ m (PySem.Str.ofString "lexer") = some (.ref X.x) ∧
            m (PySem.Str.ofString "back") = some (.int (pc.2 : Int) (tk' + 1)) ∧ StrsAre av' (ws.take (q + i)) ∧
            nl = (al, listOf av'.toArray kv') :: (I, oJ') :: (tp, listOf tv.toArray kt) :: R8) rfl hr9 (range_small (by omega) (by omega)) (range_size1 (by omega)) F7
            (news_sub N7 (l' := (al, listOf av.toArray kv) :: (I, oJ') :: (tp, listOf tv.toArray kt) :: R8) (by (((try simp only [List.cons_append, List.nil_append]); refine (?_ : HintTo _ _ _ _) (by repeat' (with_reducible (first | exact pkA | apply pkB | apply pkC | exact pkD | apply pkE | exact pkF | apply pkG))); exact fun _ => sub_pick rfl)))) ⟨av, kv, rfl, rfl, rfl, rfl, rfl, hav, rfl⟩ ?turn2 ?done2
          case turn2 =>
            rintro i t4 D o9 h tk m nl hi hI9 hDn hDl F N
            try k_fold
            refine pack fun G9 hG9 => ?_
            obtain ⟨av', kv', c1, c2, c3, c4, c5, hav', rfl⟩ := hI9
            refine hG9 ?_
            clear hG9
            clear F7 N7
            rw [nm1 c5, under (nm1 c1)] at F
            refine pack fun G9 hG9 => ?_
            obtain ⟨d1, d2, d3, d4⟩ := dec_old (by omega) hP2 (by omega) hi
            refine hG9 ?_
            clear hG9
            have hl9 : av'.length = q + i := by rw [hav'.length, List.length_take]; omega
            have hav9' : av'.length < 1000 := by omega
            have hDa : @LT.lt Nat _ al D := hDn _ (.head _)
            have hrn : ∀ p ∈ rest, p.1 ≠ al := fun p hp => Nat.ne_of_lt (hra p hp)
            have hqi : q + i < ws.length := by omega
            have hget : (List.take (q + i) ws).getD (-(pc.2 : Int) + ((List.take (q + i) ws).length : Int)).toNat PySem.Str.empty = ws[q + i] := by
              rw [List.length_take, show (-(pc.2 : Int) + ((min (q + i) ws.length : Nat) : Int)).toNat = q + i - pc.2 by rw [Nat.min_eq_left (Nat.le_of_lt hqi), Int.add_comm, ← Int.sub_eq_add_neg, Int.toNat_sub], List.getD_eq_getElem?_getD, List.getElem?_take, if_pos (Nat.sub_lt (Nat.lt_of_lt_of_le d1 (Nat.le_trans d2 (Nat.le_add_right q i))) d1), d3, List.getElem?_eq_getElem hqi]
              rfl
            k_steps
            rename News _ _ _ _ => N8
            rename Fr _ _ _ _ => F8
            rw [hget, List.push_toArray] at N8
            have htk : ws.take (q + i + 1) = ws.take (q + i) ++ [ws[q + i]] := by rw [List.take_add_one, List.getElem?_eq_getElem hqi]; rfl
            refine ListStep.next ((al, listOf _ (kv' + 1)) :: (I, oJ') :: (tp, listOf tv.toArray kt) :: R8) F8 (news_sub N8 (by (((try simp only [List.cons_append, List.nil_append]); refine (?_ : HintTo _ _ _ _) (by repeat' (with_reducible (first | exact pkA | apply pkB | apply pkC | exact pkD | apply pkE | exact pkF | apply pkG))); exact fun _ => sub_pick rfl)))) ⟨_, kv' + 1, rfl, c2, c3, c4, rfl, by show StrsAre _ (ws.take (q + i + 1)); rw [htk]; exact strsAre_snoc hav', rfl⟩ ?_
            intro p hp
            rcases List.mem_cons.mp hp with rfl | hp
            · exact Nat.ne_of_lt hDa
            · exact hDl p (.tail _ hp)
          case done2 =>
            rintro h tk m nl hI9 F N
            try k_fold
            refine pack fun G9 hG9 => ?_
            obtain ⟨av', kv', c1, c2, c3, c4, c5, hav', rfl⟩ := hI9
            refine hG9 ?_
            clear hG9
            clear F7 N7
            k_steps
            have hq1 : sumTo (psd ++ [pc]) = q + pc.1 := by rw [sum_snoc, hq]; omega
            refine WhileStep.intro (n' := b.length) F N (by simp) ⟨⟨psd ++ [pc], b, j', oJ', av', pv', kv', kp'⟩, rfl, ⟨by rw [hps1]; simp, hdj', hJ', c1, c2, c3, c4, ?_, ?_⟩, by subst hR8; rfl⟩
            · rw [hq1]; exact hav'
            · rw [hq1, dec_all (by omega) hP2 (by omega) pc.1 (Nat.le_refl _)]; exact hpv'
theorem all (d : D) : H d := by
  refine eps_all ne H ?_ d
  have h := core
  unfold mark w X tp ws ps base0 tb tv sv pv k kt kp line tl yl mean mg mb dp un gd cn cs Lc a ccd clc base g L h₁ rest s tk NAg.d at h
  exact h
end NAg
set_option maxRecDepth 100000 in
set_option maxHeartbeats 4000000 in
theorem law_again {w : World} (X : Lx) (hX : X.Ok) {tp : Addr} {ws : List PySem.Str} {ps : List (Nat × Nat)} {base0 : Nat} {tb : Tok} {tv sv pv : List Value} {k kt kp : Nat} {line : Int} {tl : Tok} {yl : Value}
    (hI : IntsAre tv ((tapeOf base0 ps).map Int.ofNat)) (hps : Pieces (rowOf ws).2 ps (rowOf ws).2.length) (hlen : ws.length < 60) (hb : 64 ≤ base0) (hb1 : base0 < 100000) (htl : tv.length < 10000) (hpv : StrsAre pv (namesOf ws)) (htp : @LT.lt Nat _ X.pb tp) : mark PySem.Challenge.rw_us0019_01 K01
   (SpecTop w 206 [.ref tp, .int (base0 : Int) tb, .ref X.x] [] 60 600 ((tp, listOf tv.toArray kt) :: X.led w line tl yl sv k pv kp)
     fun r E' => ∃ l' av k' kp', r = .ref l' ∧ @LT.lt Nat _ tp l' ∧ StrsAre av ws ∧ E' = (l', listOf av.toArray k') :: (tp, listOf tv.toArray kt) :: X.led w line tl yl sv k [] kp') := by
  ((k_fill; unfold mark; (k_dflt (refine' spec_top ?ho ?hcd ?hd1 ?hb ?hl ?hco ?hg ?hk ?hce ?_; (case ho => k_is); (case hcd => k_is); (case hd1 => decide); (case hb => intro _ KX; first | exact BindsTo.of_eq rfl | exact binds_K KX rfl (by k_is) rfl rfl rfl); (case hl => exact locs rfl); (case hco => exact rfl); (case hg => exact rfl); (case hk => exact rfl); (case hce => decide)); (try dsimp only [pa21, bd21, sc21]))))
  intro mean mg mb dp un gd cn cs Lc a ccd clc base g L h₁ rest s tk
  exact NAg.all ⟨w, X, tp, ws, ps, base0, tb, tv, sv, pv, k, kt, kp, line, tl, yl, mean, mg, mb, dp, un, gd, cn, cs, Lc, a, ccd, clc, base, g, L, h₁, rest, s, tk⟩ hX hI hps hlen hb hb1 htl hpv htp
end
section
noncomputable def baseC (f : Int) : Nat := if f = 0 then 83 else if f = 1 then 383 else if f = 2 then 119826 else 115
noncomputable def wordA (f r : Int) : List Nat := if r = 1 then (if f = 0 then [223] else [baseC f, 83]) else if r = 2 then [baseC f, 10, 383] else [baseC f]
noncomputable def wordB (d : Int) (l : List Nat) : List Nat := if d = 2 then 173 :: l else if d = 3 then l ++ [65039] else l
noncomputable def wordC (q : Int) (l : List Nat) : List Nat := if q = 0 then 34 :: (l ++ [34]) else if q = 1 then l.flatMap (fun c => [92, c]) else l.flatMap (fun c => if c = 10 then [92, 10] else [c])
noncomputable def wordD (e : Int) : Nat := if e = 0 then 10 else if e = 1 then 9 else if e = 2 then 13 else 32
noncomputable def written (n : Int) : List Nat := wordC (n / 48 % 3) (wordB (n / 12 % 4) (wordA (n / 3 % 4) (n % 3))) ++ [wordD (n / 144 % 4)]
theorem execs_midT {prog : Program} {w : World} {A : Around} {env : Env} {s : Shared} {g : Heap} {L : Addr} {Q : Flow → Shared → Prop} {b : List Stmt} (n : Nat) (J : (PySem.Str → Option Value) → List (Addr × Obj) → Prop) (ht : 1 ≤ s.toks) (h1 : wpAny (model prog w) A (execs (b.take n) env) (MidStep g L s J) noE s)
    (h2 : ∀ h tk m nl, 1 ≤ tk → J m nl → Fr g L h m → News g L h nl → wpAny (model prog w) A (execs (b.drop n) env) Q noE { s with heap := h, toks := tk }) : wpAny (model prog w) A (execs b env) Q noE s := by
  rw [← List.take_append_drop n b]
  refine execs_split (wpAny_mono (wpAny_toks_of ht h1) (fun f s' hf => ?_) fun _ _ e => e.2)
  refine pack fun G9 hG9 => ?_
  obtain ⟨ht', rfl, h, tk, m, nl, rfl, F, N, hJ⟩ := hf
  refine hG9 ?_
  clear hG9
  exact h2 h tk m nl ht' hJ F N
noncomputable def MidStepK (g : Heap) (L : Addr) (s : Shared) (J : Nat → (PySem.Str → Option Value) → List (Addr × Obj) → Prop) (f : Flow) (s₃ : Shared) : Prop :=
  f = .next ∧ ∃ h tk m nl, s₃ = { s with heap := h, toks := tk } ∧ Fr g L h m ∧ News g L h nl ∧ J tk m nl
theorem MidStepK.intro {g : Heap} {L : Addr} {s : Shared} {J : Nat → (PySem.Str → Option Value) → List (Addr × Obj) → Prop} {h : Heap} {tk : Nat} {m : PySem.Str → Option Value} (nl : List (Addr × Obj))
    (F : Fr g L h m) (N : News g L h nl) (hJ : J tk m nl) : MidStepK g L s J .next { s with heap := h, toks := tk } := ⟨rfl, h, tk, m, nl, rfl, F, N, hJ⟩
theorem execs_midK {prog : Program} {w : World} {A : Around} {env : Env} {s : Shared} {g : Heap} {L : Addr} {Q : Flow → Shared → Prop} {b : List Stmt} (n : Nat) (J : Nat → (PySem.Str → Option Value) → List (Addr × Obj) → Prop) (h1 : wpAny (model prog w) A (execs (b.take n) env) (MidStepK g L s J) noE s)
    (h2 : ∀ h tk m nl, J tk m nl → Fr g L h m → News g L h nl → wpAny (model prog w) A (execs (b.drop n) env) Q noE { s with heap := h, toks := tk }) : wpAny (model prog w) A (execs b env) Q noE s := by
  rw [← List.take_append_drop n b]
  refine execs_split (wpAny_mono h1 (fun f s' hf => ?_) fun _ _ e => e)
  refine pack fun G9 hG9 => ?_
  obtain ⟨rfl, h, tk, m, nl, rfl, F, N, hJ⟩ := hf
  refine hG9 ?_
  clear hG9
  exact h2 h tk m nl hJ F N
noncomputable def Later (P : Nat → Prop) : Prop := ∀ tk, 1 ≤ tk → P tk
theorem IfT {prog : Program} {w : World} {A : Around} {env : Env} {s : Shared} {Q : Flow → Shared → Prop} {test : Expr} {body orelse : List Stmt} {pos : Pos} (ht : 1 ≤ s.toks)
    (h : wpAny (model prog w) A (isTrue test env (eval test env)) (fun b s₂ => Later (fun tk => if b then wpAny (model prog w) A (execs body env) Q noE { s₂ with toks := tk } else wpAny (model prog w) A (execs orelse env) Q noE { s₂ with toks := tk })) noE s) :
    wpAny (model prog w) A (exec (.If test body orelse pos) env) Q noE s :=
  wpAny_If (wpAny_mono (wpAny_toks_of ht h) (fun _ s₂ q => q.2 s₂.toks q.1) fun _ _ e => e.2)
theorem strV {x y : PySem.Str} {t : Tok} (h : x = y) : Value.str x t = Value.str y t := by rw [h]
theorem strEq {x y : PySem.Str} {t : Tok} (h : x = y) : some (Value.str x t) = some (Value.str y t) := by rw [h]
theorem wordA_len (f r : Int) : (wordA f r).length ≤ 3 := by
  unfold wordA
  split
  · split <;> simp
  · split <;> simp
theorem wordB_len (d : Int) (l : List Nat) : (wordB d l).length ≤ l.length + 1 := by
  unfold wordB
  split
  · simp
  · split <;> simp
theorem wordC_len (q : Int) (l : List Nat) : (wordC q l).length ≤ 2 * l.length + 2 := by
  unfold wordC
  split
  · simp; omega
  · split
    · rw [List.length_flatMap]
      have : ∀ l : List Nat, (l.map fun a => [92, a].length).sum = 2 * l.length := by
        intro l
        induction l with
        | nil => rfl
        | cons a r ih => rw [List.map_cons, List.sum_cons, ih, List.length_cons]; simp only [List.length_cons, List.length_nil]; omega
      rw [this]; omega
    · rw [List.length_flatMap]
      have : ∀ l : List Nat, (l.map fun a => (if a = 10 then [92, 10] else [a]).length).sum ≤ 2 * l.length := by
        intro l
        induction l with
        | nil => simp
        | cons a r ih => simp only [List.map_cons, List.sum_cons, List.length_cons]; split <;> simp only [List.length_cons, List.length_nil] <;> omega
      have := this l
      omega
theorem shy_str : PySem.Str.ofString "\xad" = strOf [173] := by decide +kernel
theorem vs_str : PySem.Str.ofString "\ufe0f" = strOf [65039] := by decide +kernel
theorem bs_str1 : PySem.Str.ofString "\\" = strOf [92] := by decide +kernel
theorem one_strOf (c : Nat) : (PySem.Str.mk #[c]) = strOf [c] := rfl
theorem qt_str1 : PySem.Str.ofString "\"" = strOf [34] := by decide +kernel
local macro_rules | `(tactic| walk_at "binaryOp Add str str") => `(tactic| (refine add_str ?_ (by first | (simp only [shy_str, vs_str, qt_str1, bs_str1, strOf_append, one_strOf, one_len, strOf_len, List.length_append, List.length_cons, List.length_nil, sizeLine_eq]; omega) | size_fits); intro _ _))
local macro_rules | `(tactic| walk_at "eval ListComp") => `(tactic| (refine stopHere ?_))
theorem nl_rep {l : List Nat} (h : ∃ d f r : Nat, d < 4 ∧ f < 4 ∧ r < 3 ∧ l = wordB d (wordA f r)) : Txt.replace (strOf l) (PySem.Str.ofString "\n") (PySem.Str.ofString "\\\n") = strOf (l.flatMap (fun c => if c = 10 then [92, 10] else [c])) := by
  refine pack fun G9 hG9 => ?_
  obtain ⟨d, f, r, hd, hf, hr, rfl⟩ := h
  refine hG9 ?_
  clear hG9
  have key : ∀ d, d < 4 → ∀ f, f < 4 → ∀ r, r < 3 → Txt.replace (strOf (wordB (d : Nat) (wordA (f : Nat) (r : Nat)))) (PySem.Str.ofString "\n") (PySem.Str.ofString "\\\n") = strOf ((wordB (d : Nat) (wordA (f : Nat) (r : Nat))).flatMap (fun c => if c = 10 then [92, 10] else [c])) := by decide +kernel
  exact key d hd f hf r hr
theorem it0 : Txt.item (PySem.Str.ofString "\n\t\r ") 0 = strOf [10] := by decide +kernel
theorem it1 : Txt.item (PySem.Str.ofString "\n\t\r ") 1 = strOf [9] := by decide +kernel
theorem it2 : Txt.item (PySem.Str.ofString "\n\t\r ") 2 = strOf [13] := by decide +kernel
theorem it3 : Txt.item (PySem.Str.ofString "\n\t\r ") 3 = strOf [32] := by decide +kernel
namespace NWr
noncomputable def G (w : World) (n : Int) (t : Tok) (mean : ExcName → Option Value) (mg : PySem.Str → Option Value) (mb : PySem.Str → Option Value) (dp : Nat) (un : Nat) (gd : Option (List Code)) (outer : List Env) (A₀ : Around) (base : Heap) (g : Heap) (L : Addr) (h₁ : Heap) (rest : List (Addr × Obj)) (s : Shared) (tk : Nat) : Prop :=
  PlainH w 173 (PySem.Str.ofString "_law_written") bd16 sc16 (.ref 172) [(PySem.Str.ofString "number", .int n t)] 10 100 ([]) (fun r E' => ∃ t', r = .str (strOf (written n)) t' ∧ E' = []) mean mg mb dp un gd outer A₀ base g L h₁ rest s tk
noncomputable abbrev D : Type := (World) × (Int) × (Tok) × (ExcName → Option Value) × (PySem.Str → Option Value) × (PySem.Str → Option Value) × (Nat) × (Nat) × (Option (List Code)) × (List Env) × (Around) × (Heap) × (Heap) × (Addr) × (Heap) × (List (Addr × Obj)) × (Shared) × (Nat)
theorem ne : Nonempty D := ⟨⟨w0, 0, 0, fun _ => none, fun _ => none, fun _ => none, 0, 0, none, [], {}, default, default, 0, default, [], {}, 0⟩⟩
noncomputable abbrev H (d : D) : Prop := G d.1 d.2.1 d.2.2.1 d.2.2.2.1 d.2.2.2.2.1 d.2.2.2.2.2.1 d.2.2.2.2.2.2.1 d.2.2.2.2.2.2.2.1 d.2.2.2.2.2.2.2.2.1 d.2.2.2.2.2.2.2.2.2.1 d.2.2.2.2.2.2.2.2.2.2.1 d.2.2.2.2.2.2.2.2.2.2.2.1 d.2.2.2.2.2.2.2.2.2.2.2.2.1 d.2.2.2.2.2.2.2.2.2.2.2.2.2.1 d.2.2.2.2.2.2.2.2.2.2.2.2.2.2.1 d.2.2.2.2.2.2.2.2.2.2.2.2.2.2.2.1 d.2.2.2.2.2.2.2.2.2.2.2.2.2.2.2.2.1 d.2.2.2.2.2.2.2.2.2.2.2.2.2.2.2.2.2
@[irreducible] noncomputable def d : D := @Classical.epsilon D ne fun d => ¬ H d
@[irreducible] noncomputable def w : World := d.1
@[irreducible] noncomputable def n : Int := d.2.1
@[irreducible] noncomputable def t : Tok := d.2.2.1
@[irreducible] noncomputable def mean : ExcName → Option Value := d.2.2.2.1
@[irreducible] noncomputable def mg : PySem.Str → Option Value := d.2.2.2.2.1
@[irreducible] noncomputable def mb : PySem.Str → Option Value := d.2.2.2.2.2.1
@[irreducible] noncomputable def dp : Nat := d.2.2.2.2.2.2.1
@[irreducible] noncomputable def un : Nat := d.2.2.2.2.2.2.2.1
@[irreducible] noncomputable def gd : Option (List Code) := d.2.2.2.2.2.2.2.2.1
@[irreducible] noncomputable def outer : List Env := d.2.2.2.2.2.2.2.2.2.1
@[irreducible] noncomputable def A₀ : Around := d.2.2.2.2.2.2.2.2.2.2.1
@[irreducible] noncomputable def base : Heap := d.2.2.2.2.2.2.2.2.2.2.2.1
@[irreducible] noncomputable def g : Heap := d.2.2.2.2.2.2.2.2.2.2.2.2.1
@[irreducible] noncomputable def L : Addr := d.2.2.2.2.2.2.2.2.2.2.2.2.2.1
@[irreducible] noncomputable def h₁ : Heap := d.2.2.2.2.2.2.2.2.2.2.2.2.2.2.1
@[irreducible] noncomputable def rest : List (Addr × Obj) := d.2.2.2.2.2.2.2.2.2.2.2.2.2.2.2.1
@[irreducible] noncomputable def s : Shared := d.2.2.2.2.2.2.2.2.2.2.2.2.2.2.2.2.1
@[irreducible] noncomputable def tk : Nat := d.2.2.2.2.2.2.2.2.2.2.2.2.2.2.2.2.2
set_option maxRecDepth 100000 in
set_option maxHeartbeats 4000000 in
theorem core : mark PySem.Challenge.rw_us0019_01 K01 (G w n t mean mg mb dp un gd outer A₀ base g L h₁ rest s tk) := by
  k_fill
  unfold mark G PlainH
  (try dsimp only [pa16, bd16, sc16])
  intro B K T F N hR hE hsep hd hu
  simp only [List.nil_append] at N
  have e3 : Int.fdiv n 3 = n / 3 := Int.fdiv_eq_ediv_of_nonneg _ (by omega)
  have e12 : Int.fdiv n 12 = n / 12 := Int.fdiv_eq_ediv_of_nonneg _ (by omega)
  have e48 : Int.fdiv n 48 = n / 48 := Int.fdiv_eq_ediv_of_nonneg _ (by omega)
  have e144 : Int.fdiv n 144 = n / 144 := Int.fdiv_eq_ediv_of_nonneg _ (by omega)
  have e34 : Int.fmod (n / 3) 4 = n / 3 % 4 := Int.fmod_eq_emod_of_nonneg _ (by omega)
  have em3 : Int.fmod n 3 = n % 3 := Int.fmod_eq_emod_of_nonneg _ (by omega)
  have em12 : Int.fmod (n / 12) 4 = n / 12 % 4 := Int.fmod_eq_emod_of_nonneg _ (by omega)
  have em48 : Int.fmod (n / 48) 3 = n / 48 % 3 := Int.fmod_eq_emod_of_nonneg _ (by omega)
  have em144 : Int.fmod (n / 144) 4 = n / 144 % 4 := Int.fmod_eq_emod_of_nonneg _ (by omega)
  have e34' : Int.fmod (Int.fdiv n 3) 4 = n / 3 % 4 := by rw [e3, e34]
  have e12' : Int.fmod (Int.fdiv n 12) 4 = n / 12 % 4 := by rw [e12, em12]
  have e48' : Int.fmod (Int.fdiv n 48) 3 = n / 48 % 3 := by rw [e48, em48]
  have e144' : Int.fmod (Int.fdiv n 144) 4 = n / 144 % 4 := by rw [e144, em144]
  refine execs_midK (g := g) (L := L) 1 (fun tk m nl => 1 ≤ tk ∧ nl = rest ∧ ∃ t1 t2, m (PySem.Str.ofString "form") = some (.int (n / 3 % 4) t1) ∧ m (PySem.Str.ofString "number") = some (.int n t2)) ?p0 ?p1
  case p0 =>
    simp only [List.take_succ_cons, List.take_zero]
    k_steps
    rw [e34'] at *
    exact MidStepK.intro rest (by assumption) (news_sub (by assumption) (by (((try simp only [List.cons_append, List.nil_append]); refine (?_ : HintTo _ _ _ _) (by repeat' (with_reducible (first | exact pkA | apply pkB | apply pkC | exact pkD | apply pkE | exact pkF | apply pkG))); exact fun _ => sub_pick rfl)))) ⟨Nat.le_add_left _ _, rfl, _, _, rfl, rfl⟩
  case p1 =>
   intro h tk m nl hPk1 F N
   refine pack fun G9 hG9 => ?_
   obtain ⟨htk, rfl, t1, t2, j1, j2⟩ := hPk1
   refine hG9 ?_
   clear hG9
   rw [nm1 j2, under (nm1 j1)] at F
   simp only [List.drop_succ_cons, List.drop_zero]
   refine execs_midT (g := g) (L := L) 2 (fun m nl' => nl' = rest ∧ ∃ t1 t2, m (PySem.Str.ofString "word") = some (.str (strOf (wordA (n / 3 % 4) (n % 3))) t1) ∧ m (PySem.Str.ofString "number") = some (.int n t2)) htk ?p1 ?p2
   case p1 =>
    simp only [List.take_succ_cons, List.take_zero]
    have hcase : n / 3 % 4 = 0 ∨ n / 3 % 4 = 1 ∨ n / 3 % 4 = 2 ∨ n / 3 % 4 = 3 := by omega
    generalize n / 3 % 4 = f at *
    rcases hcase with rfl | rfl | rfl | rfl
    all_goals
      k_steps
      all_goals first
        | (exfalso; omega)
        | (have hr : n % 3 = 0 := by omega
           refine MidStep.intro rest (by assumption) (news_sub (by assumption) (by (((try simp only [List.cons_append, List.nil_append]); refine (?_ : HintTo _ _ _ _) (by repeat' (with_reducible (first | exact pkA | apply pkB | apply pkC | exact pkD | apply pkE | exact pkF | apply pkG))); exact fun _ => sub_pick rfl)))) ⟨rfl, _, _, Eq.trans rfl (strEq ?_), rfl⟩
           rw [hr]; decide +kernel)
        | (have hr : n % 3 = 1 := by omega
           refine MidStep.intro rest (by assumption) (news_sub (by assumption) (by (((try simp only [List.cons_append, List.nil_append]); refine (?_ : HintTo _ _ _ _) (by repeat' (with_reducible (first | exact pkA | apply pkB | apply pkC | exact pkD | apply pkE | exact pkF | apply pkG))); exact fun _ => sub_pick rfl)))) ⟨rfl, _, _, Eq.trans rfl (strEq ?_), rfl⟩
           rw [hr]; decide +kernel)
        | (have hr : n % 3 = 2 := by omega
           refine MidStep.intro rest (by assumption) (news_sub (by assumption) (by (((try simp only [List.cons_append, List.nil_append]); refine (?_ : HintTo _ _ _ _) (by repeat' (with_reducible (first | exact pkA | apply pkB | apply pkC | exact pkD | apply pkE | exact pkF | apply pkG))); exact fun _ => sub_pick rfl)))) ⟨rfl, _, _, Eq.trans rfl (strEq ?_), rfl⟩
           rw [hr]; decide +kernel)
   case p2 =>
    clear F N j1 j2 htk
    intro h tk m nl2 htk hPk2 F N
    refine pack fun G9 hG9 => ?_
    obtain ⟨rfl, t1, t2, j1, j2⟩ := hPk2
    refine hG9 ?_
    clear hG9
    rw [nm1 j2, under (nm1 j1)] at F
    simp only [List.drop_succ_cons, List.drop_zero]
    refine execs_midT (g := g) (L := L) 1 (fun m nl' => nl' = rest ∧ ∃ t1 t2, m (PySem.Str.ofString "word") = some (.str (strOf (wordB (n / 12 % 4) (wordA (n / 3 % 4) (n % 3)))) t1) ∧ m (PySem.Str.ofString "number") = some (.int n t2)) htk ?p3 ?p4
    case p3 =>
      have hl := wordA_len (n / 3 % 4) (n % 3)
      generalize wordA (n / 3 % 4) (n % 3) = l at *
      simp only [List.take_succ_cons, List.take_zero]
      k_steps
      · refine MidStep.intro rest (by assumption) (news_sub (by assumption) (by (((try simp only [List.cons_append, List.nil_append]); refine (?_ : HintTo _ _ _ _) (by repeat' (with_reducible (first | exact pkA | apply pkB | apply pkC | exact pkD | apply pkE | exact pkF | apply pkG))); exact fun _ => sub_pick rfl)))) ⟨rfl, _, _, Eq.trans rfl (strEq ?_), rfl⟩
        rw [shy_str, strOf_append]
        unfold wordB
        rw [if_pos (by omega)]; rfl
      · refine MidStep.intro rest (by assumption) (news_sub (by assumption) (by (((try simp only [List.cons_append, List.nil_append]); refine (?_ : HintTo _ _ _ _) (by repeat' (with_reducible (first | exact pkA | apply pkB | apply pkC | exact pkD | apply pkE | exact pkF | apply pkG))); exact fun _ => sub_pick rfl)))) ⟨rfl, _, _, Eq.trans rfl (strEq ?_), rfl⟩
        rw [vs_str, strOf_append]
        unfold wordB
        rw [if_neg (by omega), if_pos (by omega)]
      · refine MidStep.intro rest (by assumption) (news_sub (by assumption) (by (((try simp only [List.cons_append, List.nil_append]); refine (?_ : HintTo _ _ _ _) (by repeat' (with_reducible (first | exact pkA | apply pkB | apply pkC | exact pkD | apply pkE | exact pkF | apply pkG))); exact fun _ => sub_pick rfl)))) ⟨rfl, _, _, Eq.trans rfl (strEq ?_), rfl⟩
        unfold wordB
        rw [if_neg (by omega), if_neg (by omega)]
    case p4 =>
      clear F N j1 j2 htk
      intro h' tk' m nl4 htk hPk3 F N
      refine pack fun G9 hG9 => ?_
      obtain ⟨rfl, t1, t2, j1, j2⟩ := hPk3
      refine hG9 ?_
      clear hG9
      rw [nm1 j2, under (nm1 j1)] at F
      simp only [List.drop_succ_cons, List.drop_zero]
      refine execs_mid (g := g) (L := L) 1 (fun m nl => nl = rest ∧ ∃ t1 t2, m (PySem.Str.ofString "word") = some (.str (strOf (wordC (n / 48 % 3) (wordB (n / 12 % 4) (wordA (n / 3 % 4) (n % 3))))) t1) ∧ m (PySem.Str.ofString "number") = some (.int n t2)) ?p5 ?p6
      case p5 =>
        have hl := wordA_len (n / 3 % 4) (n % 3)
        have hl2 := wordB_len (n / 12 % 4) (wordA (n / 3 % 4) (n % 3))
        have hrep := nl_rep (l := wordB (n / 12 % 4) (wordA (n / 3 % 4) (n % 3))) ⟨(n / 12 % 4).toNat, (n / 3 % 4).toNat, (n % 3).toNat, by omega, by omega, by omega, by rw [Int.toNat_of_nonneg (by omega), Int.toNat_of_nonneg (by omega), Int.toNat_of_nonneg (by omega)]⟩
        generalize wordB (n / 12 % 4) (wordA (n / 3 % 4) (n % 3)) = l at *
        simp only [List.take_succ_cons, List.take_zero]
        refine wpAny_execs_cons (IfT htk ?_)
        k_steps
        intro tk1 ht1
        dsimp only
        split
        · rename_i hb
          rw [e48', beq_iff_eq] at hb
          k_steps
          refine MidStep.intro rest (by assumption) (news_sub (by assumption) (by (((try simp only [List.cons_append, List.nil_append]); refine (?_ : HintTo _ _ _ _) (by repeat' (with_reducible (first | exact pkA | apply pkB | apply pkC | exact pkD | apply pkE | exact pkF | apply pkG))); exact fun _ => sub_pick rfl)))) ⟨rfl, _, _, Eq.trans rfl (strEq ?_), rfl⟩
          rw [qt_str1, strOf_append, strOf_append]
          unfold wordC
          rw [if_pos hb]; rfl
        · rename_i hb
          rw [e48', beq_iff_eq] at hb
          refine wpAny_execs_cons (IfT ht1 ?_)
          k_steps
          clear ht1
          intro tk1 ht1
          dsimp only
          split
          · rename_i hb2
            rw [e48', beq_iff_eq] at hb2
            k_steps
            unfold Stop
            dsimp only
            refine ListComp_S (h₀ := g) (L := L) (m := fun y => if y = PySem.Str.ofString "number" then some (.int n t2) else if y = PySem.Str.ofString "word" then some (.str (strOf l) t1) else m y) (by rfl) (by decide) (by rfl) (by decide) (by rfl) ?_
            k_steps
            refine ⟨strOf l, t1, _, rfl, rfl, F, N, ?sz, ?run⟩
            case sz =>
              rw [show (strOf l).cps.size = l.length by simp [strOf], sizeLine_eq]
              omega
            case run =>
              intro s₂ hPk4
              refine pack fun G9 hG9 => ?_
              obtain ⟨hg, rfl⟩ := hPk4
              refine hG9 ?_
              clear hG9
              dsimp only
              refine comp_rest (strOf l).cps.size (fun i ys nl => StrsAre ys (((l.take i).map fun c => [92, c]).map strOf) ∧ nl = rest) ?fin ?turn2 _ 0 [] _ rfl ⟨.nil, rfl⟩
              case turn2 =>
                intro i ys nl v I oI C oC D m₂ h tk E' hi hPk5 hPk6 hoC hm F N off ne
                refine pack fun G9 hG9 => ?_
                obtain ⟨hys, rfl⟩ := hPk5
                obtain ⟨c, u, hc, rfl⟩ := hPk6
                refine hG9 ?_
                clear hG9
                have hci : l[i]? = some c := by simpa [strOf] using hc
                have htake : l.take (i + 1) = l.take i ++ [c] := by rw [List.take_add_one, hci]; rfl
                k_steps
                refine LCg.CompEnd.intro F N _ (fun _ hp => hp) off trivial ⟨?_, rfl⟩
                rw [htake, List.map_append, List.map_append, bs_str1, one_strOf, strOf_append]
                exact strsAre_snoc hys
              case fin =>
                intro ys nl hPk7
                refine pack fun G9 hG9 => ?_
                obtain ⟨hys, rfl⟩ := hPk7
                refine hG9 ?_
                clear hG9
                unfold LCg.FinE
                intro D h tk F N o1
                rw [show l.take (strOf l).cps.size = l by simp [strOf]] at hys
                have hjn : (((l.map fun c => [92, c]).map strOf).map (·.length)).sum ≤ 2 * l.length := by
                  have h1 := len_flat 2 (l.map fun c => [92, c]) (fun a ha => by obtain ⟨c, _, rfl⟩ := List.mem_map.mp ha; exact Nat.le_refl _)
                  rwa [List.length_map] at h1
                k_steps
                refine join_list (x := PySem.Str.ofString "") (News.isList N (.head _)) (ys := ((l.map fun c => [92, c]).map strOf)) hys ?_ ?_
                · rw [List.length_map, List.length_map, show (PySem.Str.ofString "").length = 0 by decide +kernel]
                  omega
                intro t9 k9
                rw [txt_join (by decide +kernel), ← List.flatMap_def]
                k_steps
                refine MidStep.intro rest (by assumption) (news_sub (by assumption) (fun _ hp => .tail _ hp)) ⟨rfl, _, _, Eq.trans rfl (strEq ?_), rfl⟩
                unfold wordC
                rw [if_neg hb, if_pos hb2]
          · rename_i hb2
            rw [e48', beq_iff_eq] at hb2
            k_steps
            refine SC.replace ?hu ?hv ?huv (by decide +kernel) ?hb ?_
            case hu => exact Nat.ne_of_gt (Nat.lt_of_lt_of_le Nat.zero_lt_one ht1)
            case hv => exact Nat.succ_ne_zero _
            case huv => exact Nat.ne_of_lt (Nat.lt_succ_self _)
            case hb => rw [strOf_len, show (PySem.Str.ofString "\\\n").length = 2 by decide +kernel]; omega
            intro t9 k9
            rw [hrep]
            k_steps
            refine MidStep.intro rest (by assumption) (news_sub (by assumption) (by (((try simp only [List.cons_append, List.nil_append]); refine (?_ : HintTo _ _ _ _) (by repeat' (with_reducible (first | exact pkA | apply pkB | apply pkC | exact pkD | apply pkE | exact pkF | apply pkG))); exact fun _ => sub_pick rfl)))) ⟨rfl, _, _, Eq.trans rfl (strEq ?_), rfl⟩
            unfold wordC
            rw [if_neg hb, if_neg hb2]
      case p6 =>
        clear F N j1 j2 htk
        intro h' tk' m nl6 hPk8 F N
        refine pack fun G9 hG9 => ?_
        obtain ⟨rfl, t1, t2, j1, j2⟩ := hPk8
        refine hG9 ?_
        clear hG9
        rw [nm1 j2, under (nm1 j1)] at F
        simp only [List.drop_succ_cons, List.drop_zero]
        have hl := wordA_len (n / 3 % 4) (n % 3)
        have hl2 := wordB_len (n / 12 % 4) (wordA (n / 3 % 4) (n % 3))
        have hl3 := wordC_len (n / 48 % 3) (wordB (n / 12 % 4) (wordA (n / 3 % 4) (n % 3)))
        unfold written
        generalize wordC (n / 48 % 3) (wordB (n / 12 % 4) (wordA (n / 3 % 4) (n % 3))) = l at *
        k_steps
        dsimp only
        refine Back.intro [] (by assumption) (news_sub (by assumption) (by (((try simp only [List.cons_append, List.nil_append]); refine (?_ : HintTo _ _ _ _) (by repeat' (with_reducible (first | exact pkA | apply pkB | apply pkC | exact pkD | apply pkE | exact pkF | apply pkG))); exact fun _ => sub_pick rfl)))) ⟨_, strV ?_, rfl⟩ NewOk.nil
        rw [e144']
        rcases (show n / 144 % 4 = 0 ∨ n / 144 % 4 = 1 ∨ n / 144 % 4 = 2 ∨ n / 144 % 4 = 3 by omega) with h | h | h | h
        all_goals
          rw [h]
          first | rw [it0, strOf_append] | rw [it1, strOf_append] | rw [it2, strOf_append] | rw [it3, strOf_append]
          rfl
theorem all (d : D) : H d := by
  refine eps_all ne H ?_ d
  have h := core
  unfold mark w n t mean mg mb dp un gd outer A₀ base g L h₁ rest s tk NWr.d at h
  exact h
end NWr
set_option maxRecDepth 100000 in
set_option maxHeartbeats 4000000 in
theorem law_written {w : World} (n : Int) (t : Tok) : mark PySem.Challenge.rw_us0019_01 K01
   (Spec w 173 [.int n t] [] 10 100 [] fun r E' => ∃ t', r = .str (strOf (written n)) t' ∧ E' = []) := by
  ((k_fill; unfold mark; (k_dflt (refine' spec_plain ?ho ?hcd ?hd1 ?hb ?hl ?hco ?hg ?hk ?hce ?_; (case ho => k_is); (case hcd => k_is); (case hd1 => decide); (case hb => intro _ KX; first | exact BindsTo.of_eq rfl | exact binds_K KX rfl (by k_is) rfl rfl rfl); (case hl => exact locs rfl); (case hco => exact rfl); (case hg => exact rfl); (case hk => exact rfl); (case hce => decide)); (try dsimp only [pa16, bd16, sc16]))))
  intro mean mg mb dp un gd outer A₀ base g L h₁ rest s tk
  exact NWr.all ⟨w, n, t, mean, mg, mb, dp, un, gd, outer, A₀, base, g, L, h₁, rest, s, tk⟩ 
end
section
local macro_rules | `(tactic| walk_at "call type:list") => `(tactic| (refine stopHere ?_))
structure Lx.Base (X : Lx) : Prop where
  hn : nestAt (bodyAt P1 14) 1 = some (X.nm, X.pa, X.bo, X.sc)
  hoc : X.oc.data = .fields X.vs
  hov : X.vs[1]? = some (.str X.qual X.tq)
  hcell : X.ocell.data = .cell (some (.ref X.sg))
  ord : @LT.lt Nat _ X.c X.sg ∧ @LT.lt Nat _ X.sg X.cd ∧ @LT.lt Nat _ X.cd X.f ∧ @LT.lt Nat _ X.f X.dy ∧ @LT.lt Nat _ X.dy X.y
noncomputable abbrev Lx.ys (w : World) (X : Lx) (yl : Value) : List (Addr × Obj) :=
  [(X.y, instObj 86 X.dy), (X.dy, dictOf [dE w "lineno" X.u1 yl, dE w "instream" X.u2 .none, dE w "whitespace" X.u3 (.str (PySem.Str.ofString "\n\t\r ") X.u3'), dE w "pushback" X.u4 (.ref X.ypb), dE w "read" X.u5 (.ref X.f)] 5)]
noncomputable def StreamPost (w : World) (cs : List Nat) (L : Addr → Prop) (r : Value) (E' : List (Addr × Obj)) : Prop :=
  ∃ (X : Lx) (sv : List Value) (k : Nat) (yl : Value) (tb : Array Value), X.Base ∧ L X.c ∧ StrsAre sv (cs.map one) ∧ r = .ref X.y ∧ E' = X.ys w yl ++ (X.rd sv k ++ [(156, tabObj tb)])
theorem stream_back {w : World} {g h' : Heap} {L : Addr} {s : Shared} {rest E₀ : List (Addr × Obj)} {tk' : Nat} {m' : PySem.Str → Option Value} {l' x' d' f' c' D' c : Addr} {o1 : Obj} {u1 u2 u3 u3' u4 u5 : Tok} {yl : Value} {ypb : Addr} {nm qual : PySem.Str} {pa : Arguments} {bo : List Stmt} {sc : Scope} {doc pm ct : Value} {oc ocell : Obj} {ys : List Value} {k : Nat} {tb vs : Array Value} {tq : Tok} {cs : List Nat} {P : Addr → Prop}
    (F : Fr g L h' m')
    (N : News g L h' ((l', o1) :: (x', instObj 86 d') :: (d', dictOf [dE w "lineno" u1 yl, dE w "instream" u2 .none, dE w "whitespace" u3 (.str (PySem.Str.ofString "\n\t\r ") u3'), dE w "pushback" u4 (.ref ypb), dE w "read" u5 (.ref f')] 5) ::
      (f', fnMade nm qual pa bo sc [(PySem.Str.ofString "signs", c)] doc pm c' ct) :: (c', oc) :: (D', listOf ys.toArray k) :: (c, ocell) :: (156, tabObj tb) :: rest))
    (hn : nestAt (bodyAt P1 14) 1 = some (nm, pa, bo, sc)) (hoc : oc.data = .fields vs) (hov : vs[1]? = some (.str qual tq)) (hcell : ocell.data = .cell (some (.ref D')))
    (hord : @LT.lt Nat _ c D' ∧ @LT.lt Nat _ D' c' ∧ @LT.lt Nat _ c' f' ∧ @LT.lt Nat _ f' d' ∧ @LT.lt Nat _ d' x') (hys : StrsAre ys (cs.map one)) (hP : P c) (hE : E₀.map (·.1) = [156])
    (hlt : ∀ q ∈ E₀ ++ rest, @LT.lt Nat _ q.1 c) :
    Back E₀ g L s rest (StreamPost w cs P) (.ref x') { s with heap := h', toks := tk' } := by
  refine pack fun G9 hG9 => ?_
  obtain ⟨r1, r2, r3, r4, r5⟩ := hord
  refine hG9 ?_
  clear hG9
  refine Back.intro ([(x', instObj 86 d'), (d', dictOf [dE w "lineno" u1 yl, dE w "instream" u2 .none, dE w "whitespace" u3 (.str (PySem.Str.ofString "\n\t\r ") u3'), dE w "pushback" u4 (.ref ypb), dE w "read" u5 (.ref f')] 5),
      (f', fnMade nm qual pa bo sc [(PySem.Str.ofString "signs", c)] doc pm c' ct), (c', oc), (c, ocell), (D', listOf ys.toArray k), (156, tabObj tb)]) F (news_sub N (by (((try simp only [List.cons_append, List.nil_append]); refine (?_ : HintTo _ _ _ _) (by repeat' (with_reducible (first | exact pkA | apply pkB | apply pkC | exact pkD | apply pkE | exact pkF | apply pkG))); exact fun _ => sub_pick rfl))))
    ⟨{ c := c, sg := D', cd := c', f := f', dy := d', y := x', ypb := ypb, dx := 0, x := 0, pb := 0, t1 := 0, t2 := 0, t3 := 0, t3' := 0, t4 := 0, u1 := u1, u2 := u2, u3 := u3, u3' := u3', u4 := u4, u5 := u5, lt0 := 0, qual := qual, doc := doc, pm := pm, ctv := ct, oc := oc, ocell := ocell, vs := vs, tq := tq, nm := nm, pa := pa, bo := bo, sc := sc },
      ys, k, yl, tb, ⟨hn, hoc, hov, hcell, r1, r2, r3, r4, r5⟩, hP, hys, rfl, rfl⟩ ?_
  have up : ∀ {a : Addr}, @LT.lt Nat _ c a → ∀ q ∈ E₀ ++ rest, @LT.lt Nat _ q.1 a := fun h q hq => Nat.lt_trans (hlt q hq) h
  refine NewOk.cons (up (by omega)) (NewOk.cons (up (by omega)) (NewOk.cons (up (by omega)) (NewOk.cons (up (by omega)) (NewOk.cons hlt (NewOk.cons (up (by omega)) (NewOk.keep (by rw [hE]; simp) NewOk.nil))))))
set_option maxRecDepth 100000 in
set_option maxHeartbeats 4000000 in
theorem stream {w : World} (cs : List Nat) (t : Tok) (hx : cs.length < 100000) : mark PySem.Challenge.rw_us0019_01 K01
   (Spec w 161 [.str ⟨cs.toArray⟩ t] [] 10 100 [(156, tabObj #[])] (StreamPost w cs fun c => 156 < c)) := by
  ((k_fill; unfold mark; (k_dflt (refine' spec_cells ?ho ?hcd ?hd1 ?hb ?hl ?hnd ?hco ?hg ?hk ?_; (case ho => k_is); (case hcd => k_is); (case hd1 => decide); (case hb => intro _ KX; first | exact BindsTo.of_eq rfl | exact binds_K KX rfl (by k_is) rfl rfl rfl); (case hl => exact rfl); (case hnd => decide +kernel); (case hco => exact rfl); (case hg => exact rfl); (case hk => exact rfl)); (try dsimp only [pa14, bd14, sc14]))))
  intro mean mg mb dp un gd outer A₀ base g L h₁ cells rest s tk B X T F N Y hR hE hsep hd hu
  k_cells Y
  simp only [List.cons_append, List.nil_append] at N
  have C160 := codeHd160 X
  have hs156 : ∀ p ∈ rest, p.1 ≠ 156 := fun p hp => hsep p hp _ (.head _)
  have hL := natLt (hE _ (.head _))
  have hxl : (PySem.Str.mk cs.toArray).length < 100000 := by simpa [PySem.Str.length] using hx
  k_steps
  unfold Stop
  k_dflt (refine' list_text_K ?hh ?F ?N ?z ?_; (case hh => exact rfl); (case F => k_asm); (case N => k_asm); (case z => first | size_fits | omega); k_whole)
  intro D' c' ys' h' tk' F' N' l1 hC'
  (try k_lt l1)
  (try k_sweep)
  k_steps
  dsimp only
  refine stream_back (by assumption) (by assumption) (by kernel_rfl) (by assumption) (by assumption) (by assumption) ?ord ?ys ?P rfl ?lt
  case ys => rename Chars _ _ => hc; exact hc
  case ord => exact ⟨by omega, by omega, by omega, by omega, by omega⟩
  case P => exact Nat.lt_succ_of_lt hL
  case lt =>
    intro q hq
    rcases List.mem_append.mp hq with hq | hq
    · rw [List.mem_singleton.mp hq]; exact Nat.lt_succ_of_lt hL
    · exact Nat.lt_succ_of_lt (hR q hq)
end
section
open PySem PySem.W PySem.Calls PyProof.Rows PySem.Spec PyProof.Rows.LCg
noncomputable def LawEnd (g : Heap) (L : Addr) (s : Shared) (fl : Flow) (s' : Shared) : Prop :=
  fl = .ret (.bool true) ∧ ∃ h' tk m' t1 t2 nl, s' = { s with heap := h', toks := tk } ∧ Fr g L h' m' ∧ News g L h' ((156, tabObj t1) :: (187, tabObj t2) :: nl)
noncomputable abbrev lawA (L fa : Addr) (cd : Value) : Around := ktrTop (2 + claimMargin) 7 (some []) (PySem.Str.ofString "law") sc23 L fa cd (cellsFrom (L + 1) sc23.names []) []
noncomputable abbrev lawV (L fa : Addr) (cd : Value) : Env := envX (PySem.Str.ofString "law") sc23 L fa cd (cellsFrom (L + 1) sc23.names [])
theorem slice_base {prog : Program} {w : World} {A : Around} {E : Value → Shared → Prop} {s : Shared} {g : Heap} {L : Addr} {news : List (Addr × Obj)} {m : PySem.Str → Option Value} {value slice : Expr} {l : Addr} {vs : List Value} {b : Nat} {zb : Int} {tb : Tok} {Q : Value → Shared → Prop} (F : Fr g L s.heap m) (N : News g L s.heap news) (hl : s.heap.IsList l vs.toArray) (eb : zb = (b : Int)) (hz : vs.length < 1000000)
    (h : ∀ D h', Fr g L h' m → News g L h' ((D, listOf (vs.take b).toArray 0) :: news) → (∀ p ∈ news, @LT.lt Nat _ p.1 D) → Q (.ref D) { s with heap := h' })
    (hs : subscripted slice false (.ref l) (.ref s.heap.objs.size) = operate [.ref s.heap.objs.size, .ref l] (getItem (.ref l) (.ref s.heap.objs.size)) := by with_unfolding_all rfl) (ht : ∀ r, letTemporaryGo value (.ref l) r = pure () := by intro _; with_unfolding_all rfl) :
    wpAny (model prog w) A (subscriptTail value slice (.ref l) (.ref s.heap.objs.size)) Q E { s with heap := s.heap.push { cls := .type "slice", data := .fields #[.none, .int zb tb, .none] } } := by
  subst eb
  exact kms_slice_lit F N hl .none (.int _ _) (pick_upto vs b) h hs ht (by rw [sizeLine_eq]; show vs.length ≤ _; omega)
theorem finA_use {prog : Program} {w : World} {A : Around} {s : Shared} {h₀ : Heap} {L : Addr} {m : PySem.Str → Option Value} {env : Env} {y : PySem.Str} {py : Pos} {Q : Shared → Prop} {D C : Addr} {h : Heap} {tk : Nat} {m' : PySem.Str → Option Value} {ys : List Value} {nl : List (Addr × Obj)}
    (F : Fr h₀ L h m) (N : News h₀ L h ((D, lst ys) :: nl)) (hn : h.Ns C m') (hC₀ : h₀.get? C = none) (hCL : C ≠ L) (hDL : D ≠ L) (hCD : C ≠ D) (off : ∀ p ∈ nl, p.1 ≠ C ∧ p.1 ≠ D)
    (fin : ∀ h'', Fr h₀ L h'' (setN m y (.ref D)) → News h₀ L h'' ((D, lst ys) :: nl) → Q { s with heap := h'', toks := tk + 1 })
    (hLe : env.locals = L := by rfl) (hy : env.kindOf y = some .local := by rfl) (hp : (env.scope.kind == .class || (env.scope.kind == .module && env.locals != env.globals)) = false := by rfl) :
    compPost (model prog w) A noE (some (assign (.Name y py) env)) (fun _ s' => Q s') (.ref D) C (.ok .next) { s with heap := h, toks := tk } :=
  finA_assign (y := y) (py := py) (Q := fun _ s' => Q s') hLe hy hp D C h tk m' ys nl F N hn hC₀ hCL hDL hCD (fun p hp => (off p hp).1) fin
noncomputable def drawsOf (ns : List Int) : List Int := [27, 193, 570, 292, 60, 107, 223] ++ ns.take 8
noncomputable def JA (ds : List Int) (sl L : Addr) (c1 c2 : Obj) (m : PySem.Str → Option Value) (nl : List (Addr × Obj)) : Prop :=
  ∃ dl dv wl wv, m (PySem.Str.ofString "script") = some (.ref sl) ∧ m (PySem.Str.ofString "draws") = some (.ref dl) ∧ m (PySem.Str.ofString "drawn") = some (.ref wl) ∧ IntsAre dv ds ∧ StrsAre wv (ds.map plainOf) ∧
    @LT.lt Nat _ (L + 1 + 1) dl ∧ @LT.lt Nat _ dl wl ∧ nl = [(wl, lst wv), (dl, listOf dv.toArray 0), (L + 1 + 1, c2), (L + 1, c1), (156, tabObj #[]), (187, tabObj #[])]
end
section
local macro_rules | `(tactic| walk_at $s:str) => if ["call ref", "binaryOp Add ref ref", "exec Assign cons ListComp", "eval ListComp", "pyIter ref", "subscriptTail Name Slice ref ref"].contains s.getString then `(tactic| (refine stopHere ?_)) else Lean.Macro.throwUnsupported
local macro_rules | `(tactic| walk_at "execs cons") => `(tactic| ((with_reducible refine wpAny_execs_cons ?_); try dsimp only))
local macro_rules | `(tactic| walk_at "execs nil") => `(tactic| refine wpAny_execs_nil ?_)
set_option maxRecDepth 100000 in
set_option maxHeartbeats 8000000 in
theorem lb1 {w : World} {mean : ExcName → Option Value} {mg mb : PySem.Str → Option Value} {base g : Heap} {L fa sl : Addr} {cd : Value} {sv : List Value} {ns : List Int} {h₁ : Heap} {s : Shared} {tk : Nat} {c1 c2 : Obj}
    (B : Below callerA base [] g) (K : (K01 w.params).In g) (T : Top topProg looseQ mean mg mb g) (hl : g.IsList sl sv.toArray) (hI : IntsAre sv ns) (hlen : ns.length ≤ 63)
    (F : Fr g L h₁ (bindL (envOfC (PySem.Str.ofString "law") sc23 L fa cd).kindOf [(PySem.Str.ofString "script", .ref sl)] fun _ => none)) (N : News g L h₁ [(L + 1 + 1, c2), (L + 1, c1), (156, tabObj #[]), (187, tabObj #[])]) :
    mark PySem.Challenge.rw_us0019_01 K01 (wpAny (model P1 w) (lawA L fa cd) (execs (bd23.take 2) (lawV L fa cd)) (MidStepK g L s (fun tk m nl => 1 ≤ tk ∧ JA (drawsOf ns) sl L c1 c2 m nl)) noE { s with heap := h₁, toks := tk }) := by
  k_fill
  unfold mark lawA lawV
  have C160 := codeHd160 K
  unfold bd23
  unfold sc23 at *
  simp only [List.take_succ_cons, List.take_zero]
  k_steps
  unfold Stop
  rename Fr _ _ _ _ => F1
  rename News _ _ _ _ => N1
  have hsl : sv.length = ns.length := hI.length
  refine slice_base (l := sl) (vs := sv) (b := 8) F1 N1 (F1.lst hl) (by decide) (by omega) ?_
  intro D1 h2 F2 N2 hD1
  clear F1 N1
  k_steps
  unfold Stop
  rename Fr _ _ _ _ => F3
  rename News _ _ _ _ => N3
  rename_i l0 l1
  refine add_lists F3 N3 (News.isList N3 (.tail _ (.head _))) (News.isList N3 (.head _)) ?_ (by rw [List.length_take, sizeLine_eq]; simp only [List.length_cons, List.length_nil]; omega)
  intro h4 F4 N4
  have hdr : IntsAre ([Value.int 27 tk, Value.int 193 (tk + 1), Value.int 570 (tk + 1 + 1), Value.int 292 (tk + 1 + 1 + 1), Value.int 60 (tk + 1 + 1 + 1 + 1), Value.int 107 (tk + 1 + 1 + 1 + 1 + 1), Value.int 223 (tk + 1 + 1 + 1 + 1 + 1 + 1)] ++ List.take 8 sv) (drawsOf ns) :=
    .cons _ _ (.cons _ _ (.cons _ _ (.cons _ _ (.cons _ _ (.cons _ _ (.cons _ _ (ints_take 8 hI)))))))
  generalize ([Value.int 27 tk, Value.int 193 (tk + 1), Value.int 570 (tk + 1 + 1), Value.int 292 (tk + 1 + 1 + 1), Value.int 60 (tk + 1 + 1 + 1 + 1), Value.int 107 (tk + 1 + 1 + 1 + 1 + 1), Value.int 223 (tk + 1 + 1 + 1 + 1 + 1 + 1)] ++ List.take 8 sv) = dv at *
  have hdl : dv.length ≤ 15 := by
    have h1 := hdr.length
    unfold drawsOf at h1
    rw [List.length_append, List.length_take] at h1
    simp only [List.length_cons, List.length_nil] at h1
    omega
  dsimp only at F4 N4 ⊢
  replace N4 := news_sub N4 (l' := [(h2.objs.size, listOf dv.toArray 0), (L + 1 + 1, c2), (L + 1, c1), (156, tabObj #[]), (187, tabObj #[])]) (by (((try simp only [List.cons_append, List.nil_append]); refine (?_ : HintTo _ _ _ _) (by repeat' (with_reducible (first | exact pkA | apply pkB | apply pkC | exact pkD | apply pkE | exact pkF | apply pkG))); exact fun _ => sub_pick rfl)))
  have hLd : @LT.lt Nat _ (L + 1 + 1) h2.objs.size := Heap.lt_size (N3 (L + 1 + 1, c2) (by k_mem)).1
  generalize h2.objs.size = dl at *
  clear F3 N3
  obtain ⟨tk9, ht9, hge⟩ : ∃ t, t = tk + 1 + 1 + 1 + 1 + 1 + 1 + 1 + 1 ∧ 1 ≤ t := ⟨_, rfl, by omega⟩
  rw [← ht9]
  clear ht9
  k_steps
  unfold Stop
  rename Fr _ _ _ _ => F5
  rename News _ _ _ _ => N5
  generalize hds : drawsOf ns = ds at *
  refine Assign_own (by with_unfolding_all rfl) (by rfl) (by rfl) (by decide) ?_
  k_steps
  unfold Stop
  refine top_list (l := dl) (vs := dv) (k := 0) (by decide) (by rfl) (by intro g' hg; cases hg) rfl (fun i ys _ nl => StrsAre ys ((ds.take i).map plainOf) ∧ nl = [(dl, listOf dv.toArray 0), (L + 1 + 1, c2), (L + 1, c1), (156, tabObj #[]), (187, tabObj #[])])
    (fun _ v m₂ m₃ => m₃ = setN m₂ (PySem.Str.ofString "number") v) 1 (by rintro i ys m₂ nl ⟨_, rfl⟩; exact .head _) F5 N5 (by dsimp only; omega) ⟨.nil, rfl⟩ (fun I C => takes_name (by rfl) (by rfl)) ?turn2 ?done2
  case turn2 =>
    rintro I C D i v ys m₂ m₃ nl oI oC h tk hI' hID hDC hv ⟨hys, rfl⟩ rfl hoC _ F N off ne
    clear F5 N5
    obtain ⟨t, rfl⟩ := IntsAre.int_at hdr i v hv
    have hi9 : ds[i]? = some (ds.getD i 0) := by
      have h1 := (List.getElem?_eq_some_iff.mp hv).1
      rw [hdr.length] at h1
      rw [List.getD_eq_getElem?_getD, List.getElem?_eq_getElem h1]
      rfl
    generalize ds.getD i 0 = n at *
    refine testsOf_nil ?_
    rw [if_pos rfl]
    have hyl := hys.length
    rw [List.length_map, List.length_take] at hyl
    refine cin_end (ys := ys) ⟨_, _, rfl⟩ (by rfl) hoC (by rw [sizeLine_eq]; have := hdr.length; omega) ?_
    generalize hm3 : setN m₂ (PySem.Str.ofString "number") (.int n t) = m₃ at hoC ⊢
    have hm : m₃ (PySem.Str.ofString "number") = some (.int n t) := by rw [← hm3]; rfl
    k_steps
    unfold Stop
    rename Fr _ _ _ _ => F
    rename News _ _ _ _ => N
    refine spec_use (law_plain (w := w) n t) _ B F K N T rfl (by decide) (by decide) (fun _ hp => hp) sep_nil ?_
    rintro r E' h' tk' ⟨t', rfl, rfl⟩ F' N' _
    simp only [List.nil_append] at N'
    refine LCg.CompEnd.intro F' N' _ (fun _ hp => hp) off ⟨ne.2.1, ne.2.2⟩ ⟨?_, rfl⟩
    rw [List.take_add_one, hi9, List.map_append]
    exact strsAre_snoc hys
  case done2 =>
    rintro D4 C h tk m' ys nl hD4 ⟨hys, rfl⟩ htk F N hn hC₀ hD₀ hCL hDL hCD off
    clear F5 N5
    rw [hdr.length, List.take_length] at hys
    refine finA_use (s := s) F N hn hC₀ hCL hDL hCD off ?_
    clear F N
    intro h F N
    dsimp only
    have hDd : @LT.lt Nat _ dl D4 := hD4 _ (.head _)
    k_steps
    exact MidStepK.intro _ (by assumption) (by assumption) ⟨by omega, dl, dv, D4, ys, rfl, rfl, rfl, hdr, hys, hLd, hDd, rfl⟩
end
section
local macro_rules | `(tactic| walk_at "no such") => `(tactic| skip)
local macro_rules | `(tactic| walk_at "call ref") => `(tactic| ((show wpAny _ _ (call (Value.ref 173) _ _) _ _ _); refine stopHere ?_))
local macro_rules | `(tactic| walk_at "call ref") => `(tactic| ((show wpAny _ _ (call (Value.ref 161) _ _) _ _ _); refine stopHere ?_))
local macro_rules | `(tactic| walk_at $s:str) => if ["eval ListComp", "pyIter ref"].contains s.getString then `(tactic| (refine stopHere ?_)) else Lean.Macro.throwUnsupported
theorem written_len (n : Int) : (written n).length ≤ 12 := by
  unfold written
  have h1 := wordA_len (n / 3 % 4) (n % 3)
  have h2 := wordB_len (n / 12 % 4) (wordA (n / 3 % 4) (n % 3))
  have h3 := wordC_len (n / 48 % 3) (wordB (n / 12 % 4) (wordA (n / 3 % 4) (n % 3)))
  rw [List.length_append, List.length_singleton]
  omega
noncomputable def textOf (ds : List Int) : List Nat := (ds.map written).flatten
theorem textOf_len : ∀ ds : List Int, (textOf ds).length ≤ 12 * ds.length
  | [] => Nat.le_refl _
  | d :: ds => by
    have h1 := textOf_len ds
    have h2 := written_len d
    unfold textOf at *
    rw [List.map_cons, List.flatten_cons, List.length_append, List.length_cons]
    omega
theorem drawsOf_len (ns : List Int) : (drawsOf ns).length ≤ 15 := by
  unfold drawsOf
  rw [List.length_append, List.length_take]
  simp only [List.length_cons, List.length_nil]
  omega
noncomputable def JB (w : World) (ds : List Int) (cs : List Nat) (sl L : Addr) (c1 c2 : Obj) (m : PySem.Str → Option Value) (nl : List (Addr × Obj)) : Prop :=
  ∃ (wl : Addr) (wv : List Value) (X : Lx) (sv : List Value) (k : Nat) (yl : Value) (tb : Array Value) (tl t : Tok), X.Ok ∧ m (PySem.Str.ofString "script") = some (.ref sl) ∧ m (PySem.Str.ofString "drawn") = some (.ref wl) ∧ m (PySem.Str.ofString "text") = some (.str (strOf cs) t) ∧ m (PySem.Str.ofString "lexer") = some (.ref X.x) ∧
    StrsAre wv (ds.map plainOf) ∧ StrsAre sv (cs.map one) ∧ @LT.lt Nat _ (L + 1 + 1) wl ∧ @LT.lt Nat _ wl X.c ∧ nl = (wl, LCg.lst wv) :: (L + 1 + 1, c2) :: (L + 1, c1) :: (187, tabObj #[]) :: (156, tabObj tb) :: X.led w 1 tl yl sv k [] 0
theorem lex_mid {w : World} {g h' : Heap} {L sl : Addr} {s : Shared} {c1 c2 : Obj} {tk' : Nat} {m' : PySem.Str → Option Value} {ds : List Int} {cs : List Nat} {dl wl x' d' p' : Addr} {do' : Obj} {wv : List Value} {X : Lx} {sv : List Value} {k : Nat} {yl : Value} {tb : Array Value} {tl t t1 t2 t3 t3' t4 : Tok}
    (XB : X.Base) (F : Fr g L h' m')
    (N : News g L h' ((p', listOf #[] 0) :: (x', instObj 86 d') :: (d', dictOf [dE w "lineno" t1 (.int 1 tl), dE w "instream" t2 (.ref X.y), dE w "whitespace" t3 (.str (PySem.Str.ofString "\n\t\r ") t3'), dE w "pushback" t4 (.ref p')] 4) ::
      (X.ys w yl ++ (X.rd sv k ++ [(156, tabObj tb), (wl, LCg.lst wv), (dl, do'), (L + 1 + 1, c2), (L + 1, c1), (187, tabObj #[])]))))
    (j1 : m' (PySem.Str.ofString "script") = some (.ref sl)) (j2 : m' (PySem.Str.ofString "drawn") = some (.ref wl)) (j3 : m' (PySem.Str.ofString "text") = some (.str (strOf cs) t)) (j4 : m' (PySem.Str.ofString "lexer") = some (.ref x'))
    (hwv : StrsAre wv (ds.map plainOf)) (hsv : StrsAre sv (cs.map one)) (hlw : @LT.lt Nat _ (L + 1 + 1) wl) (hwc : @LT.lt Nat _ wl X.c) (hyd : @LT.lt Nat _ X.y d') (hdx : @LT.lt Nat _ d' x') (hxp : @LT.lt Nat _ x' p') :
    MidStep g L s (JB w ds cs sl L c1 c2) .next { s with heap := h', toks := tk' } := by
  refine pack fun G9 hG9 => ?_
  obtain ⟨hn, hoc, hov, hcell, r1, r2, r3, r4, r5⟩ := XB
  refine hG9 ?_
  clear hG9
  refine MidStep.intro _ F (news_sub N ?sub) ⟨wl, wv, { X with dx := d', x := x', pb := p', t1 := t1, t2 := t2, t3 := t3, t3' := t3', t4 := t4 }, sv, k, yl, tb, tl, t, ⟨hn, hoc, hov, hcell, r1, r2, r3, r4, r5, hyd, hdx, hxp⟩, j1, j2, j3, j4, hwv, hsv, hlw, hwc, rfl⟩
  case sub => simp only [Lx.led, Lx.obs, Lx.ys, Lx.rd, List.cons_append, List.nil_append]; (((try simp only [List.cons_append, List.nil_append]); refine (?_ : HintTo _ _ _ _) (by repeat' (with_reducible (first | exact pkA | apply pkB | apply pkC | exact pkD | apply pkE | exact pkF | apply pkG))); exact fun _ => sub_pick rfl))
set_option maxRecDepth 100000 in
set_option maxHeartbeats 8000000 in
theorem lb2 {w : World} {mean : ExcName → Option Value} {mg mb : PySem.Str → Option Value} {base g : Heap} {L fa sl : Addr} {cd : Value} {ds : List Int} {h₁ : Heap} {s : Shared} {tk : Nat} {c1 c2 : Obj} {m : PySem.Str → Option Value} {nl : List (Addr × Obj)}
    (htk : 1 ≤ tk) (hL : @LT.lt Nat _ 191 L) (B : Below callerA base [] g) (K : (K01 w.params).In g) (T : Top topProg looseQ mean mg mb g) (hlen : ds.length ≤ 15)
    (J : JA ds sl L c1 c2 m nl) (F : Fr g L h₁ m) (N : News g L h₁ nl) :
    mark PySem.Challenge.rw_us0019_01 K01 (wpAny (model P1 w) (lawA L fa cd) (execs ((bd23.drop 2).take 2) (lawV L fa cd)) (MidStep g L s (JB w ds (textOf ds) sl L c1 c2)) noE { s with heap := h₁, toks := tk }) := by
  refine pack fun G9 hG9 => ?_
  obtain ⟨dl, dv, wl, wv, j1, j2, j3, hdr, hwv, hLd, hdw, rfl⟩ := J
  refine hG9 ?_
  clear hG9
  rw [nm1 j1, under (nm1 j2), under (under (nm1 j3))] at F
  k_fill
  unfold mark lawA lawV
  have C160 := codeHd160 K
  unfold bd23
  unfold sc23 at *
  simp only [List.drop_succ_cons, List.drop_zero, List.take_succ_cons, List.take_zero]
  k_steps
  unfold Stop
  refine ListComp_own (by rfl) (by rfl) (by decide) ?_
  k_steps
  unfold Stop
  rename Fr _ _ _ _ => F5
  rename News _ _ _ _ => N5
  have hdl : dv.length = ds.length := hdr.length
  refine top_list (l := dl) (vs := dv) (k := 0) (by decide) (by rfl) (by intro g' hg; cases hg) rfl (fun i ys _ nl => StrsAre ys (((ds.take i).map written).map strOf) ∧ nl = [(wl, LCg.lst wv), (dl, listOf dv.toArray 0), (L + 1 + 1, c2), (L + 1, c1), (156, tabObj #[]), (187, tabObj #[])])
    (fun _ v m₂ m₃ => m₃ = setN m₂ (PySem.Str.ofString "number") v) 1 (by rintro i ys m₂ nl ⟨_, rfl⟩; exact .tail _ (.head _)) F5 N5 (by dsimp only; omega) ⟨.nil, rfl⟩ (fun I C => takes_name (by rfl) (by rfl)) ?turn2 ?done2
  case turn2 =>
    intro I C D i v ys m₂ m₃ nl oI oC h tk hI' hID hDC hv hPk1 hPk2 hoC _ F N off ne
    refine pack fun G9 hG9 => ?_
    obtain ⟨hys, rfl⟩ := hPk1
    obtain rfl := hPk2
    refine hG9 ?_
    clear hG9
    clear F5 N5
    refine pack fun G9 hG9 => ?_
    obtain ⟨t, rfl⟩ := IntsAre.int_at hdr i v hv
    refine hG9 ?_
    clear hG9
    have hi9 : ds[i]? = some (ds.getD i 0) := by
      have h1 := (List.getElem?_eq_some_iff.mp hv).1
      rw [List.getD_eq_getElem?_getD, List.getElem?_eq_getElem (by omega)]
      rfl
    generalize ds.getD i 0 = n at *
    refine testsOf_nil ?_
    rw [if_pos rfl]
    have hyl := hys.length
    rw [List.length_map, List.length_map, List.length_take] at hyl
    refine cin_end (ys := ys) ⟨_, _, rfl⟩ (by rfl) hoC (by rw [sizeLine_eq]; omega) ?_
    generalize hm3 : setN m₂ (PySem.Str.ofString "number") (.int n t) = m₃ at hoC ⊢
    have hm : m₃ (PySem.Str.ofString "number") = some (.int n t) := by rw [← hm3]; rfl
    k_steps
    unfold Stop
    rename Fr _ _ _ _ => F
    rename News _ _ _ _ => N
    refine spec_use (law_written (w := w) n t) _ B F K N T rfl (by decide) (by decide) (fun _ hp => hp) sep_nil ?_
    intro r E' h' tk' hPk3 F' N' _
    refine pack fun G9 hG9 => ?_
    obtain ⟨t', rfl, rfl⟩ := hPk3
    refine hG9 ?_
    clear hG9
    simp only [List.nil_append] at N'
    refine LCg.CompEnd.intro F' N' _ (fun _ hp => hp) off ⟨ne.2.1, ne.2.2⟩ ⟨?_, rfl⟩
    rw [List.take_add_one, hi9, List.map_append, List.map_append]
    exact strsAre_snoc hys
  case done2 =>
    intro D4 C h tk m' ys nl hD4 hPk4 htk F N hn hC₀ hD₀ hCL hDL hCD off
    refine pack fun G9 hG9 => ?_
    obtain ⟨hys, rfl⟩ := hPk4
    refine hG9 ?_
    clear hG9
    clear F5 N5
    rw [hdl, List.take_length] at hys
    refine finD_eval D4 C h tk m' ys _ F N hn hC₀ hCL hDL hCD (fun p hp => (off p hp).1) ?_
    clear F N
    intro h F N
    have hwD : @LT.lt Nat _ wl D4 := hD4 _ (.head _)
    k_steps
    have htl := textOf_len ds
    refine join_list (x := PySem.Str.ofString "") (News.isList N (.head _)) (ys := (ds.map written).map strOf) hys ?_ ?_
    · have h1 := len_flat 12 (ds.map written) (fun a ha => by obtain ⟨c, _, rfl⟩ := List.mem_map.mp ha; exact written_len c)
      rw [List.length_map] at h1
      rw [List.length_map, List.length_map, show (PySem.Str.ofString "").length = 0 by decide +kernel]
      omega
    intro t9 k9
    rw [txt_join (by decide +kernel), ← show textOf ds = (ds.map written).flatten from rfl]
    generalize hcs : textOf ds = cs at *
    k_steps
    unfold Stop
    rename Fr _ _ _ _ => F6
    rename News _ _ _ _ => N6
    refine spec_use (stream (w := w) cs _ (by omega)) [(wl, LCg.lst wv), (dl, listOf dv.toArray 0), (L + 1 + 1, c2), (L + 1, c1), (187, tabObj #[])] B F6 K N6 T rfl (by decide) (by decide) ?perm ?sep ?_
    case perm => (((try simp only [List.cons_append, List.nil_append]); refine (?_ : HintTo _ _ _ _) (by repeat' (with_reducible (first | exact pkA | apply pkB | apply pkC | exact pkD | apply pkE | exact pkF | apply pkG))); exact fun _ => sub_pick rfl))
    case sep =>
      intro p hp q hq
      rw [List.mem_singleton.mp hq]
      simp only [List.mem_cons, List.not_mem_nil, or_false] at hp
      rcases hp with rfl | rfl | rfl | rfl | rfl <;> (refine @Nat.ne_of_gt _ _ ?_; dsimp only; omega)
    intro r E' h' tk' hPk5 F' N' hn'
    refine pack fun G9 hG9 => ?_
    obtain ⟨X, sv, k, yl, tb, XB, hP, hsv, rfl, rfl⟩ := hPk5
    refine hG9 ?_
    clear hG9
    have hXc : @LT.lt Nat _ wl X.c := by
      rcases hn' (X.c, X.ocell) (by (try simp only [Lx.ys, Lx.rd, List.cons_append, List.nil_append]); k_mem) with h | h
      · have h : X.c = 156 := by simpa using h
        exact absurd h (@Nat.ne_of_gt X.c 156 hP)
      · exact h (wl, LCg.lst wv) (by k_mem)
    clear hn' F6 N6
    simp only [Lx.ys, Lx.rd, List.cons_append, List.nil_append] at N'
    refine pack fun G9 hG9 => ?_
    obtain ⟨r1, r2, r3, r4, r5⟩ := XB.ord
    refine hG9 ?_
    clear hG9
    k_steps
    try dsimp only
    refine lex_mid XB (by assumption) (by assumption) rfl rfl rfl rfl hwv hsv (by omega) hXc ?o1 ?o2 ?o3
    all_goals omega
end
section
local macro_rules | `(tactic| walk_at "call ref") => `(tactic| (refine stopHere ?_))
theorem perm_led {w : World} {X : Lx} {line : Int} {tl : Tok} {yl : Value} {sv ps : List Value} {k kp : Nat} (a b c d e : Addr × Obj) : ∀ p ∈ X.led w line tl yl sv k ps kp ++ [a, b, c, d, e], p ∈ a :: b :: c :: d :: e :: X.led w line tl yl sv k ps kp := fun _ hp => mem_swap hp
theorem sep_led {X : Lx} (hX : X.Ok) {R : List (Addr × Obj)} (h : ∀ p ∈ R, @LT.lt Nat _ p.1 X.c) : X.Sep R := fun p hp => hX.below (h p hp)
set_option genSizeOf false in
set_option genInjectivity false in
structure SD where
  (wl vl pl tp al ul : Addr) (wv vv nv pv tv av uv : List Value) (tls : List (Addr × Obj)) (X : Lx) (k kv kp kk kt ka ku : Nat) (yl : Value) (tb tb2 : Array Value) (tl t tb0 : Tok) (c1 c2 : Obj)
structure SF (ws : List PySem.Str) (L : Addr) (d : SD) : Prop where
  hX : d.X.Ok
  hwv : StrsAre d.wv ws
  hvv : StrsAre d.vv ws
  hlw : @LT.lt Nat _ (L + 1 + 1) d.wl
  hwc : @LT.lt Nat _ d.wl d.X.c
  hpv : @LT.lt Nat _ d.X.pb d.vl
structure SN (cs : List Nat) (d : SD) (m : PySem.Str → Option Value) : Prop where
  drawn : m (PySem.Str.ofString "drawn") = some (.ref d.wl)
  text : m (PySem.Str.ofString "text") = some (.str (strOf cs) d.t)
  lexer : m (PySem.Str.ofString "lexer") = some (.ref d.X.x)
  words : m (PySem.Str.ofString "words") = some (.ref d.vl)
structure SC (ws : List PySem.Str) (ps : List (Nat × Nat)) (d : SD) : Prop where
  hT : Tups d.tls d.pv ps
  hc1 : d.c1.data = .cell (some (.ref d.pl))
  hplv : @LT.lt Nat _ d.vl d.pl
  htls : ∀ p ∈ d.tls, @LT.lt Nat _ d.pl p.1
noncomputable def JB2 (w : World) (ws : List PySem.Str) (cs : List Nat) (sl L : Addr) (c1 c2 : Obj) (m : PySem.Str → Option Value) (nl : List (Addr × Obj)) : Prop :=
  ∃ d : SD, SF ws L d ∧ SN cs d m ∧ m (PySem.Str.ofString "script") = some (.ref sl) ∧
    nl = (d.vl, listOf d.vv.toArray d.kv) :: (d.X.led w (1 + nls cs) d.tl d.yl [] d.k [] 0 ++ [(d.wl, LCg.lst d.wv), (L + 1 + 1, c2), (L + 1, c1), (187, tabObj #[]), (156, tabObj d.tb)])
theorem low5 {L wl b : Addr} {o1 o2 o3 o4 o5 : Obj} (hL : @LT.lt Nat _ 191 L) (h1 : @LT.lt Nat _ (L + 1 + 1) wl) (h2 : @LT.lt Nat _ wl b) : ∀ p ∈ [(wl, o1), (L + 1 + 1, o2), (L + 1, o3), ((187 : Nat), o4), ((156 : Nat), o5)], @LT.lt Nat _ p.1 b := by
  intro p hp
  simp only [List.mem_cons, List.not_mem_nil, or_false] at hp
  rcases hp with rfl | rfl | rfl | rfl | rfl <;> (dsimp only; omega)
set_option maxRecDepth 100000 in
set_option maxHeartbeats 8000000 in
theorem lb3a {w : World} {mean : ExcName → Option Value} {mg mb : PySem.Str → Option Value} {base g : Heap} {L fa sl : Addr} {cd : Value} {ds : List Int} {cs : List Nat} {toks : List (List Nat)} {h₁ : Heap} {s : Shared} {tk : Nat} {c1 c2 : Obj} {m : PySem.Str → Option Value} {nl : List (Addr × Obj)}
    (hL : @LT.lt Nat _ 191 L) (B : Below callerA base [] g) (K : (K01 w.params).In g) (T : Top topProg looseQ mean mg mb g)
    (ht : Toks cs toks) (hsig : ∀ tok ∈ toks, ∀ c ∈ tok, c ∈ theSigns) (htl : toks.length ≤ 15) (hlt : ∀ tok ∈ toks, tok.length < 1000) (hprep : toks.map (fun t => strOf (prepC t)) = ds.map plainOf) (hcs : cs.length < 100000) (hok : StrsOk (cs.map one))
    (J : JB w ds cs sl L c1 c2 m nl) (F : Fr g L h₁ m) (N : News g L h₁ nl) :
    mark PySem.Challenge.rw_us0019_01 K01 (wpAny (model P1 w) (lawA L fa cd) (execs ((bd23.drop 4).take 1) (lawV L fa cd)) (MidStep g L s (JB2 w (ds.map plainOf) cs sl L c1 c2)) noE { s with heap := h₁, toks := tk }) := by
  refine pack fun G9 hG9 => ?_
  obtain ⟨wl, wv, X, sv, k, yl, tb, tl, t, hX, j1, j2, j3, j4, hwv, hsv, hlw, hwc, rfl⟩ := J
  refine hG9 ?_
  clear hG9
  obtain ⟨R, hR⟩ : ∃ R, R = [(wl, LCg.lst wv), (L + 1 + 1, c2), (L + 1, c1), (187, tabObj #[]), (156, tabObj tb)] := ⟨_, rfl⟩
  have hS : X.Sep R := sep_led hX (by subst hR; exact low5 hL hlw hwc)
  replace N : News g L h₁ (X.led w 1 tl yl sv k [] 0 ++ R) := by subst hR; exact news_sub N (perm_led _ _ _ _ _)
  rw [nm1 j4] at F
  have hnl := nls_le (l := cs)
  k_fill
  unfold mark lawA lawV
  unfold bd23
  unfold sc23 at *
  simp only [List.drop_succ_cons, List.drop_zero, List.take_succ_cons, List.take_zero]
  k_steps
  unfold Stop
  refine spec_use (law_words (w := w) X hX (kp := 0) (line := 1) (tl := tl) (yl := yl) (k := k) hsv hok (by omega) (by decide) (by omega) ht hsig (by omega) hlt) R B F K N T rfl (by decide) (by decide) (fun _ h => h) hS.led ?_
  intro r E' h' tk' hPk1 F' N' _
  refine pack fun G9 hG9 => ?_
  obtain ⟨vl, vv, kv, k', tl', rfl, hpv, hvv, rfl⟩ := hPk1
  refine hG9 ?_
  clear hG9
  rw [hprep] at hvv
  k_steps
  rename Fr _ _ _ _ => F9
  rename News _ _ _ _ => N9
  exact MidStep.intro _ F9 N9 ⟨{ wl := wl, vl := vl, pl := 0, tp := 0, al := 0, ul := 0, wv := wv, vv := vv, nv := [], pv := [], tv := [], av := [], uv := [], tls := [], X := X, k := k', kv := kv, kp := 0, kk := 0, kt := 0, ka := 0, ku := 0, yl := yl, tb := tb, tb2 := #[], tl := tl', t := t, tb0 := 0, c1 := c1, c2 := c2 }, ⟨hX, hwv, hvv, hlw, hwc, hpv⟩, ⟨j2, j3, rfl, rfl⟩, j1, by subst hR; rfl⟩
noncomputable def JC (w : World) (ws : List PySem.Str) (ps : List (Nat × Nat)) (cs : List Nat) (sl L : Addr) (c2 : Obj) (m : PySem.Str → Option Value) (nl : List (Addr × Obj)) : Prop :=
  ∃ d : SD, SF ws L d ∧ SN cs d m ∧ SC ws ps d ∧ StrsAre d.nv (namesOf ws) ∧ m (PySem.Str.ofString "script") = some (.ref sl) ∧
    nl = (L + 1, d.c1) :: (L + 1 + 1, c2) :: (d.pl, listOf d.pv.toArray d.kk) :: (d.vl, listOf d.vv.toArray d.kv) :: (d.wl, LCg.lst d.wv) :: (187, tabObj d.tb2) :: (156, tabObj d.tb) :: (d.X.led w (1 + nls cs) d.tl d.yl [] d.k d.nv d.kp ++ d.tls)
theorem perm_p {d a b c x f : Addr × Obj} {led : List (Addr × Obj)} : ∀ p ∈ [x] ++ d :: (led ++ [a, b, c, f]), p ∈ (d :: led) ++ [a, b, c, x, f] := fun p hp =>
  mem_swap (A := [a, b, c, x, f]) (sub_then (by (((try simp only [List.cons_append, List.nil_append]); refine (?_ : HintTo _ _ _ _) (by repeat' (with_reducible (first | exact pkA | apply pkB | apply pkC | exact pkD | apply pkE | exact pkF | apply pkG))); exact fun _ => sub_pick rfl))) (mem_swap (A := x :: d :: led) (B := [a, b, c, f]) hp))
theorem perm_c {pl t1 vl wl l2 l1 t2 : Addr × Obj} {led tls : List (Addr × Obj)} : ∀ p ∈ l1 :: l2 :: pl :: vl :: wl :: t1 :: t2 :: (led ++ tls), p ∈ (pl :: t1 :: tls) ++ (vl :: (led ++ [wl, l2, l1, t2])) := fun p hp => by
  refine List.mem_append.mpr ?_
  rcases List.mem_append.mp (show p ∈ [pl, t1] ++ ([wl, l2, l1, t2] ++ vl :: (led ++ tls)) from sub_then (by (((try simp only [List.cons_append, List.nil_append]); refine (?_ : HintTo _ _ _ _) (by repeat' (with_reducible (first | exact pkA | apply pkB | apply pkC | exact pkD | apply pkE | exact pkF | apply pkG))); exact fun _ => sub_pick rfl))) hp) with h | h
  · exact .inl (List.mem_append_left tls h)
  · rcases List.mem_append.mp (show p ∈ ([wl, l2, l1, t2] ++ vl :: led) ++ tls from h) with h | h
    · exact .inr (mem_swap h)
    · exact .inl (.tail _ (.tail _ h))
set_option maxRecDepth 100000 in
set_option maxHeartbeats 8000000 in
theorem lb3b {w : World} {mean : ExcName → Option Value} {mg mb : PySem.Str → Option Value} {base g : Heap} {L fa sl : Addr} {cd : Value} {ws : List PySem.Str} {cs : List Nat} {h₁ : Heap} {s : Shared} {tk : Nat} {c1 c2 : Obj} {m : PySem.Str → Option Value} {nl : List (Addr × Obj)}
    (hL : @LT.lt Nat _ 191 L) (B : Below callerA base [] g) (K : (K01 w.params).In g) (T : Top topProg looseQ mean mg mb g) (hc1 : c1.data = .cell none) (hwl : ws.length ≤ 15)
    (J : JB2 w ws cs sl L c1 c2 m nl) (F : Fr g L h₁ m) (N : News g L h₁ nl) :
    mark PySem.Challenge.rw_us0019_01 K01 (wpAny (model P1 w) (lawA L fa cd) (execs ((bd23.drop 5).take 1) (lawV L fa cd)) (MidStep g L s (fun m nl => ∃ ps, Pieces (rowOf ws).2 ps (rowOf ws).2.length ∧ JC w ws ps cs sl L c2 m nl)) noE { s with heap := h₁, toks := tk }) := by
  refine pack fun G9 hG9 => ?_
  obtain ⟨⟨wl, vl, _, _, _, _, wv, vv, _, _, _, _, _, _, X, k, kv, _, _, _, _, _, yl, tb, _, tl, t, _, _, _⟩, ⟨hX, hwv, hvv, hlw, hwc, hpv⟩, ⟨j2, j3, j4, j5⟩, j1, rfl⟩ := J
  refine hG9 ?_
  clear hG9
  dsimp only at *
  obtain ⟨R, hR⟩ : ∃ R, R = [(wl, LCg.lst wv), (L + 1 + 1, c2), (L + 1, c1), (187, tabObj #[]), (156, tabObj tb)] := ⟨_, rfl⟩
  have hlo : ∀ p ∈ R, @LT.lt Nat _ p.1 X.c := by subst hR; exact low5 hL hlw hwc
  have hcv := hX.ctop hpv
  have hS : X.Sep R := sep_led hX hlo
  rw [← hR] at N
  rw [nm1 j4, under (nm1 j5)] at F
  k_fill
  unfold mark lawA lawV
  have C160 := codeHd160 K
  unfold bd23
  unfold sc23 at *
  simp only [List.drop_succ_cons, List.drop_zero, List.take_succ_cons, List.take_zero]
  k_steps
  unfold Stop
  refine spec_use (law_row (w := w) X hX (wl := vl) (kw := kv) (k := k) (kp := 0) (line := 1 + nls cs) (tl := tl) (yl := yl) (sv := []) hvv (Nat.lt_of_le_of_lt hwl (by decide)) hpv) R B F K N T rfl (by decide) (by decide) (fun _ h => h) ?sep2 ?_
  case sep2 =>
    intro p hp q hq
    rcases List.mem_cons.mp hq with rfl | hq
    · exact Nat.ne_of_lt (Nat.lt_trans (hlo p hp) hcv)
    · exact hS.led p hp q hq
  intro r E' h' tk' hPk2 F' N' _
  refine pack fun G9 hG9 => ?_
  obtain ⟨t9, nv, kp', rfl, hnv, rfl⟩ := hPk2
  refine hG9 ?_
  clear hG9
  clear F N
  k_steps
  unfold Stop
  rename Fr _ _ _ _ => F
  rename News _ _ _ _ => N
  have hrl : (rowOf ws).2.length < 100 := by rw [(rowOf_len _ ws rfl).2]; exact Nat.lt_of_le_of_lt hwl (by decide)
  generalize hled : X.led w (1 + nls cs) tl yl [] k nv kp' = led at N
  refine spec_use (law_pieces (w := w) (row := (rowOf ws).2) t9 hrl) ((vl, listOf vv.toArray kv) :: (led ++ [(wl, LCg.lst wv), (L + 1 + 1, c2), (L + 1, c1), (156, tabObj tb)])) B F K N T rfl (by decide) (by decide) ?perm3 ?sep3 ?_
  case perm3 => subst hR; exact perm_p
  case sep3 =>
    intro p hp q hq
    rw [List.mem_singleton.mp hq]
    rcases List.mem_cons.mp hp with rfl | hp
    · exact Nat.ne_of_gt (Nat.lt_trans (hlo (187, tabObj #[]) (by rw [hR]; simp)) hcv)
    · rcases List.mem_append.mp hp with hp | hp
      · subst hled
        exact hX.nine (.inl (hlo (187, tabObj #[]) (by rw [hR]; simp))) p hp
      · simp only [List.mem_cons, List.not_mem_nil, or_false] at hp
        rcases hp with rfl | rfl | rfl | rfl <;> (dsimp only; first | exact Nat.ne_of_gt (by omega) | exact Nat.ne_of_lt (by omega))
  intro r E' h' tk' hPk3 F' N' hn'
  refine pack fun G9 hG9 => ?_
  obtain ⟨pl, tb2, tls, pv, ps, kk, rfl, hps, hT, htls, rfl⟩ := hPk3
  refine hG9 ?_
  clear hG9
  have hplv : @LT.lt Nat _ vl pl := by
    rcases hn' (pl, listOf pv.toArray kk) (.head _) with h | h
    · have h : pl = 187 := by simpa using h
      subst h
      have z1 := (N' _ (.head _)).1
      have z2 := (N' (187, tabObj tb2) (.tail _ (.head _))).1
      rw [z1] at z2
      exact absurd (congrArg (fun o => o.map (·.cls)) z2) (by simp [W.listOf, tabObj])
    · exact h (vl, listOf vv.toArray kv) (.tail _ (.head _))
  clear hn' F N
  obtain ⟨RR, hRR⟩ : ∃ RR, RR = (L + 1 + 1, c2) :: (pl, listOf pv.toArray kk) :: (vl, listOf vv.toArray kv) :: (wl, LCg.lst wv) :: (187, tabObj tb2) :: (156, tabObj tb) :: (led ++ tls) := ⟨_, rfl⟩
  replace N' : News g L h' ((L + 1, c1) :: RR) := by
    subst hRR
    exact news_sub N' perm_c
  have n1 : ∀ p ∈ RR, p.1 ≠ L + 1 := by
    have hLp : @LT.lt Nat _ (L + 1) vl := Nat.lt_trans (Nat.lt_of_succ_lt hlw) (Nat.lt_trans hwc hcv)
    subst hRR
    intro p hp
    simp only [List.mem_cons, List.mem_append] at hp
    rcases hp with rfl | rfl | rfl | rfl | rfl | rfl | hp | hp
    · exact Nat.succ_ne_self _
    · exact Nat.ne_of_gt (Nat.lt_trans hLp hplv)
    · exact Nat.ne_of_gt hLp
    · exact Nat.ne_of_gt (Nat.lt_of_succ_lt hlw)
    · exact Nat.ne_of_lt (by dsimp only; omega)
    · exact Nat.ne_of_lt (by dsimp only; omega)
    · subst hled
      exact hX.nine (.inl (Nat.lt_trans (Nat.lt_of_succ_lt hlw) hwc)) p hp
    · exact Nat.ne_of_gt (Nat.lt_trans hLp (Nat.lt_trans hplv (htls p hp)))
  k_steps
  subst hRR hled
  dsimp only
  rename Fr _ _ _ _ => F9
  rename News _ _ _ _ => N9
  exact MidStep.intro _ F9 N9 ⟨ps, hps, { wl := wl, vl := vl, pl := pl, tp := 0, al := 0, ul := 0, wv := wv, vv := vv, nv := nv, pv := pv, tv := [], av := [], uv := [], tls := tls, X := X, k := k, kv := kv, kp := kp', kk := kk, kt := 0, ka := 0, ku := 0, yl := yl, tb := tb, tb2 := tb2, tl := tl, t := t, tb0 := 0, c1 := _, c2 := c2 }, ⟨hX, hwv, hvv, hlw, hwc, hpv⟩, ⟨j2, j3, rfl, rfl⟩, ⟨hT, by assumption, hplv, htls⟩, hnv, j1, rfl⟩
end
section
noncomputable def JD (w : World) (ws : List PySem.Str) (ps : List (Nat × Nat)) (base0 : Nat) (cs : List Nat) (sl L : Addr) (m : PySem.Str → Option Value) (nl : List (Addr × Obj)) : Prop :=
  ∃ c2 tb0, c2.data = .cell (some (.int (base0 : Int) tb0)) ∧ JC w ws ps cs sl L c2 m nl
theorem perm_two {a b : Addr × Obj} {R : List (Addr × Obj)} : ∀ p ∈ b :: a :: R, p ∈ a :: b :: R := fun p hp => by
  rcases List.mem_cons.mp hp with h | h
  · exact h ▸ .tail _ (.head _)
  · rcases List.mem_cons.mp h with h | h
    · exact h ▸ .head _
    · exact .tail _ (.tail _ h)
theorem nines {L pl vl wl : Addr} {a b : Nat} {o1 o2 o3 o4 o5 o6 : Obj} {X : Lx} (hX : X.Ok) {led tls : List (Addr × Obj)} (hled : ∀ b, @LT.lt Nat _ b X.c → ∀ p ∈ led, p.1 ≠ b) (hL : @LT.lt Nat _ 191 L) (h : b = L + 1 ∧ a = L + 1 + 1 ∨ b = L + 1 + 1 ∧ a = L + 1) (hlw : @LT.lt Nat _ (L + 1 + 1) wl) (hwc : @LT.lt Nat _ wl X.c) (hpv : @LT.lt Nat _ X.pb vl) (hplv : @LT.lt Nat _ vl pl) (htls : ∀ p ∈ tls, @LT.lt Nat _ pl p.1) :
    ∀ p ∈ (a, o1) :: (pl, o2) :: (vl, o3) :: (wl, o4) :: ((187 : Nat), o5) :: ((156 : Nat), o6) :: (led ++ tls), p.1 ≠ b := by
  have hb : @LE.le Nat _ b (L + 1 + 1) := by omega
  have hb1 : @LT.lt Nat _ b wl := Nat.lt_of_le_of_lt hb hlw
  have hbc : @LT.lt Nat _ b X.c := Nat.lt_trans hb1 hwc
  have hbv : @LT.lt Nat _ b vl := Nat.lt_trans hbc (hX.ctop hpv)
  have hbp := Nat.lt_trans hbv hplv
  have h9 : @LT.lt Nat _ 191 b := by omega
  intro p hp
  simp only [List.mem_cons, List.mem_append] at hp
  rcases hp with rfl | rfl | rfl | rfl | rfl | rfl | hp | hp
  · show @Ne Nat a b
    omega
  · exact Nat.ne_of_gt hbp
  · exact Nat.ne_of_gt hbv
  · exact Nat.ne_of_gt hb1
  · exact Nat.ne_of_lt (Nat.lt_trans (show (187 : Nat) < 191 by decide) h9)
  · exact Nat.ne_of_lt (Nat.lt_trans (show (156 : Nat) < 191 by decide) h9)
  · exact hled b hbc p hp
  · exact Nat.ne_of_gt (Nat.lt_trans hbp (htls p hp))
set_option maxRecDepth 100000 in
set_option maxHeartbeats 8000000 in
theorem lb4 {w : World} {mean : ExcName → Option Value} {mg mb : PySem.Str → Option Value} {base g : Heap} {L fa sl : Addr} {cd : Value} {sv : List Value} {ns : List Int} {ws : List PySem.Str} {ps : List (Nat × Nat)} {cs : List Nat} {h₁ : Heap} {s : Shared} {tk : Nat} {c2 : Obj} {m : PySem.Str → Option Value} {nl : List (Addr × Obj)}
    (hL : @LT.lt Nat _ 191 L) (B : Below callerA base [] g) (K : (K01 w.params).In g) (T : Top topProg looseQ mean mg mb g) (hl : g.IsList sl sv.toArray) (hI : IntsAre sv ns) (hlen : ns.length ≤ 63) (hc2 : c2.data = .cell none)
    (J : JC w ws ps cs sl L c2 m nl) (F : Fr g L h₁ m) (N : News g L h₁ nl) :
    mark PySem.Challenge.rw_us0019_01 K01 (wpAny (model P1 w) (lawA L fa cd) (execs ((bd23.drop 6).take 1) (lawV L fa cd)) (MidStep g L s (fun m nl => ∃ base0, 64 ≤ base0 ∧ base0 < 5064 ∧ JD w ws ps base0 cs sl L m nl)) noE { s with heap := h₁, toks := tk }) := by
  refine pack fun G9 hG9 => ?_
  obtain ⟨d, hS, hN, hC, hnv, j1, rfl⟩ := J
  refine hG9 ?_
  clear hG9
  obtain ⟨R, hR⟩ : ∃ R, R = (L + 1, d.c1) :: (d.pl, listOf d.pv.toArray d.kk) :: (d.vl, listOf d.vv.toArray d.kv) :: (d.wl, LCg.lst d.wv) :: (187, tabObj d.tb2) :: (156, tabObj d.tb) :: (d.X.led w (1 + nls cs) d.tl d.yl [] d.k d.nv d.kp ++ d.tls) := ⟨_, rfl⟩
  have n1 : ∀ p ∈ R, p.1 ≠ L + 1 + 1 := by subst hR; exact nines hS.hX (fun b h => hS.hX.nine (.inl h)) hL (.inr ⟨rfl, rfl⟩) hS.hlw hS.hwc hS.hpv hC.hplv hC.htls
  replace N : News g L h₁ ((L + 1 + 1, c2) :: R) := by subst hR; exact news_sub N perm_two
  rw [nm1 j1] at F
  k_fill
  unfold mark lawA lawV
  have C160 := codeHd160 K
  unfold bd23
  unfold sc23 at *
  simp only [List.drop_succ_cons, List.drop_zero, List.take_succ_cons, List.take_zero]
  have hls : h₁.IsList sl sv.toArray := F.lst hl
  k_steps
  rename _ = Data.cell (some (Value.int (64 + ns.sum.fmod 5000) _)) => hd9
  have e9 : 64 + ns.sum.fmod 5000 = ((64 + (ns.sum % 5000).toNat : Nat) : Int) := by
    rw [Int.fmod_eq_emod_of_nonneg _ (by omega)]
    omega
  rw [e9] at hd9
  dsimp only at hd9 ⊢
  rename Fr _ _ _ _ => F9
  rename News _ _ _ _ => N9
  subst hR
  exact MidStep.intro _ F9 (news_sub N9 perm_two) ⟨64 + (ns.sum % 5000).toNat, by omega, by omega, _, _, hd9, d, hS, ⟨hN.drawn, hN.text, hN.lexer, hN.words⟩, hC, hnv, rfl, rfl⟩
end
section
local macro_rules | `(tactic| walk_at $s:str) => if ["call ref", "exec Assign cons ListComp", "eval ListComp", "pyIter ref"].contains s.getString then `(tactic| (refine stopHere ?_)) else Lean.Macro.throwUnsupported
theorem Tups.get : ∀ {tl : List (Addr × Obj)} {vs : List Value} {ps : List (Nat × Nat)}, Tups tl vs ps → ∀ i, i < ps.length → ∃ (a : Addr) (tx ty : Tok), vs[i]? = some (.ref a) ∧ (a, ({ cls := .type "tuple", data := .seq #[.int ((ps.getD i (0, 0)).1 : Int) tx, .int ((ps.getD i (0, 0)).2 : Int) ty] } : Obj)) ∈ tl
  | _, _, _, .nil, i, h => by simp at h
  | _, _, _, .cons h, 0, _ => ⟨_, _, _, rfl, .head _⟩
  | _, _, _, .cons h, i + 1, hi => by
    refine pack fun G9 hG9 => ?_
    obtain ⟨a, tx, ty, h1, h2⟩ := Tups.get h i (by simpa using hi)
    refine hG9 ?_
    clear hG9
    exact ⟨a, tx, ty, h1, .tail _ h2⟩
theorem Tups.fns {tl : List (Addr × Obj)} {vs : List Value} {ps : List (Nat × Nat)} (h : Tups tl vs ps) : ∃ v₁ v₂ : Nat → Value, ∀ i, i < ps.length → ∃ (a : Addr) (tx ty : Tok), vs[i]? = some (.ref a) ∧ v₁ i = .int ((ps.getD i (0, 0)).1 : Int) tx ∧ v₂ i = .int ((ps.getD i (0, 0)).2 : Int) ty ∧ (a, ({ cls := .type "tuple", data := .seq #[v₁ i, v₂ i] } : Obj)) ∈ tl := by
  have key : ∀ i, ∃ v : Value × Value, i < ps.length → ∃ (a : Addr) (tx ty : Tok), vs[i]? = some (.ref a) ∧ v.1 = .int ((ps.getD i (0, 0)).1 : Int) tx ∧ v.2 = .int ((ps.getD i (0, 0)).2 : Int) ty ∧ (a, ({ cls := .type "tuple", data := .seq #[v.1, v.2] } : Obj)) ∈ tl := by
    intro i
    by_cases hi : i < ps.length
    · refine pack fun G9 hG9 => ?_
      obtain ⟨a, tx, ty, h1, h2⟩ := h.get i hi
      refine hG9 ?_
      clear hG9
      exact ⟨(_, _), fun _ => ⟨a, tx, ty, h1, rfl, rfl, h2⟩⟩
    · exact ⟨(.none, .none), fun h => absurd h hi⟩
  obtain ⟨f, hf⟩ := Classical.axiomOfChoice key
  exact ⟨fun i => (f i).1, fun i => (f i).2, hf⟩
theorem go_len : ∀ (k n : Nat) (acc : List Nat), n ≤ k → (octN.go n acc).length ≤ acc.length + n
  | 0, n, acc, h => by rw [octN_go_stop (by omega)]; omega
  | k + 1, n, acc, h => by
    by_cases hn : n < 64
    · rw [octN_go_stop hn]; omega
    · rw [octN_go_step hn]
      have := go_len k (n / 64) ((n / 64 % 64 + 64) :: acc) (by omega)
      rw [List.length_cons] at this
      omega
theorem oct_len {n : Nat} (h : n < 262144) : (octN n).length ≤ 67 := by
  unfold octN
  by_cases h1 : n < 64
  · rw [octN_go_stop h1]; simp
  · rw [octN_go_step h1]
    by_cases h2 : n / 64 < 64
    · rw [octN_go_stop h2]; simp
    · rw [octN_go_step h2]
      have := go_len _ (n / 64 / 64) (((n / 64 / 64 % 64 + 64) :: (n / 64 % 64 + 64) :: [n % 64])) (Nat.le_refl _)
      simp only [List.length_cons, List.length_nil] at this
      omega
theorem tape_len {base0 : Nat} : ∀ {ps : List (Nat × Nat)}, (∀ pc ∈ ps, pc.1 * base0 + pc.2 < 262144) → (tapeOf base0 ps).length ≤ 67 * ps.length
  | [], _ => Nat.le_refl _
  | pc :: ps, h => by
    have h1 := tape_len (ps := ps) fun q hq => h q (.tail _ hq)
    have h2 := oct_len (h pc (.head _))
    unfold tapeOf at *
    rw [List.flatMap_cons, List.length_append, List.length_cons]
    omega
theorem tape_snoc (base0 : Nat) (ps : List (Nat × Nat)) (pc : Nat × Nat) : tapeOf base0 (ps ++ [pc]) = tapeOf base0 ps ++ octN (pc.1 * base0 + pc.2) := by
  unfold tapeOf
  rw [List.flatMap_append]
  simp
theorem pieces_small {row : List Nat} {n : Nat} (hn : row.length ≤ n) : ∀ {ps : List (Nat × Nat)} {q : Nat}, Pieces row ps q → q ≤ row.length → ps.length ≤ q ∧ ∀ pc ∈ ps, pc.1 ≤ n ∧ pc.2 ≤ n
  | _, _, .nil, _ => ⟨Nat.le_refl _, by simp⟩
  | _, _, .snoc (pc := pc) h hq hp, hle => by
    obtain ⟨h1, h2⟩ := pieces_small hn h (by omega)
    have h3 := piece_fits hq hp
    refine ⟨by rw [List.length_append, List.length_singleton]; omega, fun p hp' => ?_⟩
    rcases List.mem_append.mp hp' with hp' | hp'
    · exact h2 p hp'
    · rw [List.mem_singleton.mp hp']
      refine ⟨by omega, ?_⟩
      rcases hp.2 with ⟨h, h0⟩ | ⟨h0, _, h9, _⟩
      · rw [h0]; omega
      · omega
structure SE (base0 : Nat) (ps : List (Nat × Nat)) (d : SD) : Prop where
  htv : IntsAre d.tv ((tapeOf base0 ps).map Int.ofNat)
  htl : d.tv.length < 10000
  hc2 : d.c2.data = .cell (some (.int (base0 : Int) d.tb0))
  hpt : @LT.lt Nat _ d.pl d.tp
  htp : ∀ p ∈ d.tls, @LT.lt Nat _ p.1 d.tp
noncomputable def JE (w : World) (ws : List PySem.Str) (ps : List (Nat × Nat)) (base0 : Nat) (cs : List Nat) (L : Addr) (m : PySem.Str → Option Value) (nl : List (Addr × Obj)) : Prop :=
  ∃ d : SD, SF ws L d ∧ SN cs d m ∧ SC ws ps d ∧ StrsAre d.nv (namesOf ws) ∧ SE base0 ps d ∧ m (PySem.Str.ofString "tape") = some (.ref d.tp) ∧
    nl = (d.tp, listOf d.tv.toArray d.kt) :: (L + 1, d.c1) :: (L + 1 + 1, d.c2) :: (d.pl, listOf d.pv.toArray d.kk) :: (d.vl, listOf d.vv.toArray d.kv) :: (d.wl, LCg.lst d.wv) :: (187, tabObj d.tb2) :: (156, tabObj d.tb) :: (d.X.led w (1 + nls cs) d.tl d.yl [] d.k d.nv d.kp ++ d.tls)
theorem perm_pl {a b c : Addr × Obj} {R : List (Addr × Obj)} : ∀ p ∈ c :: b :: a :: R, p ∈ a :: b :: c :: R := by (((try simp only [List.cons_append, List.nil_append]); refine (?_ : HintTo _ _ _ _) (by repeat' (with_reducible (first | exact pkA | apply pkB | apply pkC | exact pkD | apply pkE | exact pkF | apply pkG))); exact fun _ => sub_pick rfl))
theorem perm_pl4 {a b c e : Addr × Obj} {R : List (Addr × Obj)} : ∀ p ∈ e :: a :: b :: c :: R, p ∈ e :: c :: b :: a :: R := by (((try simp only [List.cons_append, List.nil_append]); refine (?_ : HintTo _ _ _ _) (by repeat' (with_reducible (first | exact pkA | apply pkB | apply pkC | exact pkD | apply pkE | exact pkF | apply pkG))); exact fun _ => sub_pick rfl))
set_option maxRecDepth 100000 in
set_option maxHeartbeats 8000000 in
theorem lb5 {w : World} {mean : ExcName → Option Value} {mg mb : PySem.Str → Option Value} {base g : Heap} {L fa sl : Addr} {cd : Value} {ws : List PySem.Str} {ps : List (Nat × Nat)} {base0 : Nat} {cs : List Nat} {h₁ : Heap} {s : Shared} {tk : Nat} {m : PySem.Str → Option Value} {nl : List (Addr × Obj)}
    (hL : @LT.lt Nat _ 191 L) (B : Below callerA base [] g) (K : (K01 w.params).In g) (T : Top topProg looseQ mean mg mb g) (hwl : ws.length ≤ 15) (hb : base0 < 5064)
    (hps : Pieces (rowOf ws).2 ps (rowOf ws).2.length) (J : JD w ws ps base0 cs sl L m nl) (F : Fr g L h₁ m) (N : News g L h₁ nl) :
    mark PySem.Challenge.rw_us0019_01 K01 (wpAny (model P1 w) (lawA L fa cd) (execs ((bd23.drop 7).take 1) (lawV L fa cd)) (MidStep g L s (JE w ws ps base0 cs L)) noE { s with heap := h₁, toks := tk }) := by
  refine pack fun G9 hG9 => ?_
  obtain ⟨c2, tb0, hc2, d, hS, hN, hC, hnv, j1, rfl⟩ := J
  refine hG9 ?_
  clear hG9
  obtain ⟨RR, hRR⟩ : ∃ RR, RR = (d.vl, listOf d.vv.toArray d.kv) :: (d.wl, LCg.lst d.wv) :: (187, tabObj d.tb2) :: (156, tabObj d.tb) :: (d.X.led w (1 + nls cs) d.tl d.yl [] d.k d.nv d.kp ++ d.tls) := ⟨_, rfl⟩
  have hsub : ∀ p ∈ d.tls, p ∈ RR := by
    subst hRR
    exact fun p hp => .tail _ (.tail _ (.tail _ (.tail _ (List.mem_append_right _ hp))))
  have hc1 := hC.hc1
  replace N : News g L h₁ ((d.pl, listOf d.pv.toArray d.kk) :: (L + 1 + 1, c2) :: (L + 1, d.c1) :: RR) := by subst hRR; exact news_sub N perm_pl
  have hrl := (rowOf_len _ ws rfl).2
  obtain ⟨hpl, hsm⟩ := pieces_small (n := 15) (by omega) hps (Nat.le_refl _)
  have hpn : ∀ pc ∈ ps, pc.1 * base0 + pc.2 < 262144 := fun pc hp => by
    obtain ⟨h1, h2⟩ := hsm pc hp
    have := Nat.mul_le_mul h1 (Nat.le_of_lt hb)
    omega
  have htl := tape_len hpn
  refine pack fun G9 hG9 => ?_
  obtain ⟨v₁, v₂, hfn⟩ := hC.hT.fns
  refine hG9 ?_
  clear hG9
  have hpvl := hC.hT.length
  k_fill
  unfold mark lawA lawV
  have C160 := codeHd160 K
  unfold bd23
  unfold sc23 at *
  simp only [List.drop_succ_cons, List.drop_zero, List.take_succ_cons, List.take_zero]
  k_steps
  unfold Stop
  refine Assign_own (cl := [(PySem.Str.ofString "base", L + 1 + 1)]) (by with_unfolding_all rfl) (by rfl) (by rfl) (by decide) ?_
  k_steps
  unfold Stop
  rename Fr _ _ _ _ => F5
  rename News _ _ _ _ => N5
  refine top_list (l := d.pl) (vs := d.pv) (k := d.kk) (by decide) (by rfl) (by intro g' hg; cases hg; rfl) rfl (fun i ys _ nl => IntsAre ys ((tapeOf base0 (ps.take i)).map Int.ofNat) ∧ nl = (d.pl, listOf d.pv.toArray d.kk) :: (L + 1 + 1, c2) :: (L + 1, d.c1) :: RR)
    (fun i _ m₂ m₃ => m₃ = setN (setN m₂ (PySem.Str.ofString "size") (v₁ i)) (PySem.Str.ofString "back") (v₂ i)) 0 (by rintro i ys m₂ nl ⟨_, rfl⟩; exact .head _) F5 N5 (Nat.zero_le _) ⟨.nil, rfl⟩ ?tak ?turn2 ?done2
  case tak =>
    intro I C
    refine takes_pair v₁ v₂ rfl (by rfl) (by rfl) (by rfl) (fun i h hst => ⟨d.pl, i, hst.1⟩) ?_
    intro i v ys m₂ nl hi hv hPk1
    refine pack fun G9 hG9 => ?_
    obtain ⟨_, rfl⟩ := hPk1
    obtain ⟨a, tx, ty, h1, h2, h3, h4⟩ := hfn i (by simpa [← hpvl] using hi)
    refine hG9 ?_
    clear hG9
    have hv' : v = .ref a := by
      rw [List.getElem?_toArray, h1] at hv
      exact (Option.some.inj hv).symm
    exact ⟨a, { cls := .type "tuple", data := .seq #[v₁ i, v₂ i] }, _, hv', .tail _ (.tail _ (.tail _ (hsub _ h4))), rfl, rfl⟩
  case turn2 =>
    intro I C D i v ys m₂ m₃ nl oI oC h tk hI' hID hDC hv hPk2 hPk3 hoC _ F N off ne
    refine pack fun G9 hG9 => ?_
    obtain ⟨hys, rfl⟩ := hPk2
    obtain rfl := hPk3
    refine hG9 ?_
    clear hG9
    clear F5 N5
    have hi : i < ps.length := by rw [← hpvl]; exact (List.getElem?_eq_some_iff.mp hv).1
    refine pack fun G9 hG9 => ?_
    obtain ⟨a, tx, ty, h1, h2, h3, h4⟩ := hfn i hi
    refine hG9 ?_
    clear hG9
    have hpi : ps[i]? = some (ps.getD i (0, 0)) := by
      rw [List.getD_eq_getElem?_getD, List.getElem?_eq_getElem hi]
      rfl
    have hsi := hpn _ (List.mem_of_getElem? hpi)
    generalize ps.getD i (0, 0) = pc at *
    refine testsOf_nil ?_
    rw [if_pos rfl]
    refine cin_more (by rfl) (by intro _; rfl) ?_
    rw [h2, h3] at hoC
    generalize hm3 : setN (setN m₂ (PySem.Str.ofString "size") (.int (pc.1 : Int) tx)) (PySem.Str.ofString "back") (.int (pc.2 : Int) ty) = m₃ at hoC
    have hm : m₃ (PySem.Str.ofString "size") = some (.int (pc.1 : Int) tx) := by rw [← hm3]; rfl
    have hm' : m₃ (PySem.Str.ofString "back") = some (.int (pc.2 : Int) ty) := by rw [← hm3]; rfl
    k_steps
    unfold Stop
    rw [show (pc.1 : Int) * (base0 : Int) + (pc.2 : Int) = ((pc.1 * base0 + pc.2 : Nat) : Int) by rw [Int.natCast_add, Int.natCast_mul]]
    rename Fr _ _ _ _ => F5
    rename News _ _ _ _ => N5
    refine spec_use (octets (w := w) (pc.1 * base0 + pc.2) _ (by omega)) _ B F5 K N5 T rfl (by decide) (by decide) (fun _ hp => hp) sep_nil ?_
    intro r E' h' tk' hPk4 F' N' hn'
    refine pack fun G9 hG9 => ?_
    obtain ⟨ol, ov, ok, rfl, rfl, hov⟩ := hPk4
    refine hG9 ?_
    clear hG9
    have hol : ∀ q ∈ (I, oI) :: (C, oC) :: (D, LCg.lst ys) :: ([] : List (Addr × Obj)), @LT.lt Nat _ q.1 ol := by
      rcases hn' _ (.head _) with h | h
      · simp at h
      · intro q hq
        exact h q (List.mem_append_right _ (sub_then (by (((try simp only [List.cons_append, List.nil_append]); refine (?_ : HintTo _ _ _ _) (by repeat' (with_reducible (first | exact pkA | apply pkB | apply pkC | exact pkD | apply pkE | exact pkF | apply pkG))); exact fun _ => sub_pick rfl))) hq))
    have hoC9 := hol (C, oC) (.tail _ (.head _))
    have hoD9 := hol (D, LCg.lst ys) (.tail _ (.tail _ (.head _)))
    clear hn' hol F5 N5
    rw [octOf_eq] at hov
    have hovl : ov.length = (octN (pc.1 * base0 + pc.2)).length := by rw [hov.length, List.length_map]
    have htake : tapeOf base0 (ps.take (i + 1)) = tapeOf base0 (ps.take i) ++ octN (pc.1 * base0 + pc.2) := by
      rw [List.take_add_one, hpi]
      exact tape_snoc _ _ _
    have htl2 : (tapeOf base0 (ps.take (i + 1))).length ≤ 67 * (ps.take (i + 1)).length := tape_len fun q hq => hpn q (List.mem_of_mem_take hq)
    rw [htake, List.length_append, List.length_take] at htl2
    simp only [List.cons_append, List.nil_append] at N'
    k_steps
    unfold Stop
    rename Fr _ _ _ _ => F6
    rename News _ _ _ _ => N6
    refine lev_list (l := ol) (vs := ov) (k := ok) (by rfl) (by intro g' hg; cases hg) rfl (fun j ys _ nl => IntsAre ys ((tapeOf base0 (ps.take i) ++ (octN (pc.1 * base0 + pc.2)).take j).map Int.ofNat) ∧
      nl = (ol, listOf ov.toArray ok) :: (I, oI) :: (d.pl, listOf d.pv.toArray d.kk) :: (L + 1 + 1, c2) :: (L + 1, d.c1) :: RR)
      (fun _ v m₂ m₃ => m₃ = setN m₂ (PySem.Str.ofString "octet") v) 0 (by rintro i ys m₂ nl ⟨_, rfl⟩; exact .head _) (fun I => takes_name (by rfl) (by rfl)) ?eturn ?edone (Nat.zero_le _) F6 hoC (ys₁ := ys) (nl₁ := (ol, listOf ov.toArray ok) :: (I, oI) :: (d.pl, listOf d.pv.toArray d.kk) :: (L + 1 + 1, c2) :: (L + 1, d.c1) :: RR) (news_sub N6 ?subs) ?offs ne.2.2 ⟨by simpa using hys, rfl⟩
    case subs => (((try simp only [List.cons_append, List.nil_append]); refine (?_ : HintTo _ _ _ _) (by repeat' (with_reducible (first | exact pkA | apply pkB | apply pkC | exact pkD | apply pkE | exact pkF | apply pkG))); exact fun _ => sub_pick rfl))
    case offs =>
      intro r hr
      rcases List.mem_cons.mp hr with rfl | hr
      · exact ⟨@Nat.ne_of_gt _ _ hoC9, @Nat.ne_of_gt _ _ hoD9⟩
      · rcases List.mem_cons.mp hr with rfl | hr
        · exact ⟨ne.1, ne.2.1⟩
        · exact (off.mem r hr).2
    case eturn =>
      intro I2 j v2 ys2 m4 m5 nl2 oI2 oC2 h' tk' hv2 hPk5 hPk6 hoC2 _ F' N' off2 ne2
      refine pack fun G9 hG9 => ?_
      obtain ⟨hys2, rfl⟩ := hPk5
      obtain rfl := hPk6
      refine hG9 ?_
      clear hG9
      clear F6 N6
      have hj9 := (List.getElem?_eq_some_iff.mp hv2).1
      have hyl : ys2.length ≤ 2000 := by
        have h9 := hys2.length
        rw [List.length_map, List.length_append, List.length_take] at h9
        omega
      refine pack fun G9 hG9 => ?_
      obtain ⟨te, rfl, heo⟩ := ints_at hov hv2
      refine hG9 ?_
      clear hG9
      have hej : (octN (pc.1 * base0 + pc.2))[j]? = some ((octN (pc.1 * base0 + pc.2)).getD j 0) := by
        rw [List.getD_eq_getElem?_getD, List.getElem?_eq_getElem (by omega)]
        rfl
      generalize (octN (pc.1 * base0 + pc.2)).getD j 0 = e at *
      refine testsOf_nil ?_
      rw [if_pos rfl]
      refine cin_end (ys := ys2) ⟨_, _, rfl⟩ (by rfl) hoC2 (by rw [sizeLine_eq]; omega) ?_
      generalize hm5 : setN m4 (PySem.Str.ofString "octet") (.int (e : Int) te) = m5 at hoC2 ⊢
      have hm : m5 (PySem.Str.ofString "octet") = some (.int (e : Int) te) := by rw [← hm5]; rfl
      k_steps
      refine LCg.CompEnd.intro (by assumption) (by assumption) _ ?sub9 off2 ⟨ne2.2.1, ne2.2.2⟩ ⟨?_, rfl⟩
      case sub9 => (((try simp only [List.cons_append, List.nil_append]); refine (?_ : HintTo _ _ _ _) (by repeat' (with_reducible (first | exact pkA | apply pkB | apply pkC | exact pkD | apply pkE | exact pkF | apply pkG))); exact fun _ => sub_pick rfl))
      rw [List.take_add_one, hej, ← List.append_assoc, List.map_append]
      exact ints_app hys2 (.cons _ _ .nil)
    case edone =>
      intro h' tk' ys2 m₄ oC2 nl hPk7 hoC2 _ F' N' off'
      refine pack fun G9 hG9 => ?_
      obtain ⟨hys2, rfl⟩ := hPk7
      refine hG9 ?_
      clear hG9
      show LevEnd _ _ _ _ _ _ _ _ _ _
      refine LevEnd.intro (ys := ys2) F' hoC2 N' _ ?sub8 off ⟨?_, rfl⟩
      case sub8 => (((try simp only [List.cons_append, List.nil_append]); refine (?_ : HintTo _ _ _ _) (by repeat' (with_reducible (first | exact pkA | apply pkB | apply pkC | exact pkD | apply pkE | exact pkF | apply pkG))); exact fun _ => sub_pick rfl))
      rw [htake]
      rw [hovl, List.take_length] at hys2
      exact hys2
  case done2 =>
    intro D4 C h tk m' ys nl hD4 hPk8 htk F N hn hC₀ hD₀ hCL hDL hCD off
    refine pack fun G9 hG9 => ?_
    obtain ⟨hys, rfl⟩ := hPk8
    refine hG9 ?_
    clear hG9
    clear F5 N5
    rw [hpvl, List.take_length] at hys
    refine finA_use (s := s) F N hn hC₀ hCL hDL hCD off ?_
    clear F N
    intro h F N
    dsimp only
    have hyl : ys.length < 10000 := by
      rw [hys.length, List.length_map]
      omega
    have hpD : @LT.lt Nat _ d.pl D4 := hD4 _ (.head _)
    have htD : ∀ p ∈ d.tls, @LT.lt Nat _ p.1 D4 := fun p hp => hD4 p (.tail _ (.tail _ (.tail _ (hsub _ hp))))
    k_steps
    rename Fr _ _ _ _ => F9
    rename News _ _ _ _ => N9
    subst hRR
    exact MidStep.intro _ F9 (news_sub N9 perm_pl4) ⟨{ d with tp := D4, tv := ys, kt := ys.length, c2 := c2, tb0 := tb0 }, ⟨hS.hX, hS.hwv, hS.hvv, hS.hlw, hS.hwc, hS.hpv⟩, ⟨hN.drawn, hN.text, hN.lexer, hN.words⟩, ⟨hC.hT, hC.hc1, hC.hplv, hC.htls⟩, hnv, ⟨hys, hyl, hc2, hpD, htD⟩, rfl, rfl⟩
end
section
local macro_rules | `(tactic| walk_at "no such") => `(tactic| skip)
local macro_rules | `(tactic| walk_at "call ref") => `(tactic| (refine stopHere ?_))
noncomputable def JF (w : World) (ws : List PySem.Str) (ps : List (Nat × Nat)) (cs : List Nat) (L : Addr) (m : PySem.Str → Option Value) (nl : List (Addr × Obj)) : Prop :=
  ∃ d : SD, SF ws L d ∧ SN cs d m ∧ SC ws ps d ∧ (StrsAre d.av ws ∧ @LT.lt Nat _ d.X.pb d.al) ∧ m (PySem.Str.ofString "again") = some (.ref d.al) ∧
    nl = (L + 1, d.c1) :: (d.pl, listOf d.pv.toArray d.kk) :: (d.al, listOf d.av.toArray d.ka) :: (d.vl, listOf d.vv.toArray d.kv) :: (d.wl, LCg.lst d.wv) :: (187, tabObj d.tb2) :: (156, tabObj d.tb) :: (d.X.led w (1 + nls cs) d.tl d.yl [] d.k [] d.kp ++ d.tls)
theorem perm_pl2 {a b c : Addr × Obj} {R : List (Addr × Obj)} : ∀ p ∈ c :: a :: b :: R, p ∈ a :: b :: c :: R := by (((try simp only [List.cons_append, List.nil_append]); refine (?_ : HintTo _ _ _ _) (by repeat' (with_reducible (first | exact pkA | apply pkB | apply pkC | exact pkD | apply pkE | exact pkF | apply pkG))); exact fun _ => sub_pick rfl))
theorem perm_6 {tp l2 l1 pl vl wl t1 t2 : Addr × Obj} {led tls : List (Addr × Obj)} : ∀ p ∈ (tp :: led) ++ (l2 :: l1 :: pl :: vl :: wl :: t1 :: t2 :: tls), p ∈ l2 :: tp :: l1 :: pl :: vl :: wl :: t1 :: t2 :: (led ++ tls) := fun p hp =>
  sub_then (by (((try simp only [List.cons_append, List.nil_append]); refine (?_ : HintTo _ _ _ _) (by repeat' (with_reducible (first | exact pkA | apply pkB | apply pkC | exact pkD | apply pkE | exact pkF | apply pkG))); exact fun _ => sub_pick rfl))) (mem_four (A := [tp]) (B := led) (C := [l2, l1, pl, vl, wl, t1, t2]) (D := tls) hp)
theorem perm_6b {al tp l2 l1 pl vl wl t1 t2 : Addr × Obj} {led tls : List (Addr × Obj)} : ∀ p ∈ l1 :: pl :: al :: vl :: wl :: t1 :: t2 :: (led ++ tls), p ∈ al :: (tp :: led) ++ (l2 :: l1 :: pl :: vl :: wl :: t1 :: t2 :: tls) := fun p hp =>
  mem_four (A := [al, tp]) (B := [l2, l1, pl, vl, wl, t1, t2]) (C := led) (D := tls) (sub_then (by (((try simp only [List.cons_append, List.nil_append]); refine (?_ : HintTo _ _ _ _) (by repeat' (with_reducible (first | exact pkA | apply pkB | apply pkC | exact pkD | apply pkE | exact pkF | apply pkG))); exact fun _ => sub_pick rfl))) hp)
theorem lows {L pl vl wl b : Addr} {o1 o2 o3 o4 o5 o6 o7 : Obj} {X : Lx} (hX : X.Ok) {tls : List (Addr × Obj)} (hL : @LT.lt Nat _ 191 L) (hlw : @LT.lt Nat _ (L + 1 + 1) wl) (hwc : @LT.lt Nat _ wl X.c) (hpv : @LT.lt Nat _ X.pb vl) (hplv : @LT.lt Nat _ vl pl) (hpb : @LT.lt Nat _ pl b) (htp : ∀ p ∈ tls, @LT.lt Nat _ p.1 b) :
    ∀ p ∈ (L + 1 + 1, o1) :: (L + 1, o2) :: (pl, o3) :: (vl, o4) :: (wl, o5) :: ((187 : Nat), o6) :: ((156 : Nat), o7) :: tls, @LT.lt Nat _ p.1 b := by
  have h1 : @LT.lt Nat _ vl b := Nat.lt_trans hplv hpb
  have h2 : @LT.lt Nat _ wl b := Nat.lt_trans hwc (Nat.lt_trans (hX.ctop hpv) h1)
  have h3 : @LT.lt Nat _ (L + 1 + 1) b := Nat.lt_trans hlw h2
  have h4 : @LT.lt Nat _ L b := Nat.lt_of_succ_lt (Nat.lt_of_succ_lt h3)
  have h5 : @LT.lt Nat _ 191 b := Nat.lt_trans hL h4
  intro p hp
  simp only [List.mem_cons] at hp
  rcases hp with rfl | rfl | rfl | rfl | rfl | rfl | rfl | hp
  · exact h3
  · exact Nat.lt_of_succ_lt h3
  · exact hpb
  · exact h1
  · exact h2
  · exact Nat.lt_trans (show (187 : Nat) < 191 by decide) h5
  · exact Nat.lt_trans (show (156 : Nat) < 191 by decide) h5
  · exact htp p hp
theorem seps {L pl vl wl : Addr} {o1 o2 o3 o4 o5 o6 o7 : Obj} {X : Lx} (hX : X.Ok) {tls : List (Addr × Obj)} (hL : @LT.lt Nat _ 191 L) (hlw : @LT.lt Nat _ (L + 1 + 1) wl) (hwc : @LT.lt Nat _ wl X.c) (hpv : @LT.lt Nat _ X.pb vl) (hplv : @LT.lt Nat _ vl pl) (htp : ∀ p ∈ tls, @LT.lt Nat _ pl p.1) :
    X.Sep ((L + 1 + 1, o1) :: (L + 1, o2) :: (pl, o3) :: (vl, o4) :: (wl, o5) :: ((187 : Nat), o6) :: ((156 : Nat), o7) :: tls) := by
  have h3 : @LT.lt Nat _ (L + 1 + 1) X.c := Nat.lt_trans hlw hwc
  have h5 : @LT.lt Nat _ 191 X.c := Nat.lt_trans hL (Nat.lt_of_succ_lt (Nat.lt_of_succ_lt h3))
  refine Lx.Sep.cons (Lx.Sep.cons (Lx.Sep.cons (Lx.Sep.cons (Lx.Sep.cons (Lx.Sep.cons (Lx.Sep.cons ?_ (hX.below (Nat.lt_trans (show (156 : Nat) < 191 by decide) h5))) (hX.below (Nat.lt_trans (show (187 : Nat) < 191 by decide) h5))) (hX.below hwc)) (hX.above hpv)) (hX.above (Nat.lt_trans hpv hplv))) (hX.below (Nat.lt_of_succ_lt h3))) (hX.below h3)
  exact fun p hp => hX.above (Nat.lt_trans hpv (Nat.lt_trans hplv (htp p hp)))
set_option maxRecDepth 100000 in
set_option maxHeartbeats 8000000 in
theorem lb6 {w : World} {mean : ExcName → Option Value} {mg mb : PySem.Str → Option Value} {g : Heap} {L fa : Addr} {cd : Value} {ws : List PySem.Str} {ps : List (Nat × Nat)} {base0 : Nat} {cs : List Nat} {h₁ : Heap} {s : Shared} {tk : Nat} {m : PySem.Str → Option Value} {nl : List (Addr × Obj)}
    (hL : @LT.lt Nat _ 191 L) (B : Below callerA g [] g) (K : (K01 w.params).In g) (T : Top topProg looseQ mean mg mb g) (hwl : ws.length ≤ 15) (hb0 : 64 ≤ base0) (hb : base0 < 5064)
    (hps : Pieces (rowOf ws).2 ps (rowOf ws).2.length) (J : JE w ws ps base0 cs L m nl) (F : Fr g L h₁ m) (N : News g L h₁ nl) :
    mark PySem.Challenge.rw_us0019_01 K01 (wpAny (model P1 w) (lawA L fa cd) (execs ((bd23.drop 8).take 1) (lawV L fa cd)) (MidStep g L s (JF w ws ps cs L)) noE { s with heap := h₁, toks := tk }) := by
  refine pack fun G9 hG9 => ?_
  obtain ⟨d, hS, hN, hC, hnv, hE, j5, rfl⟩ := J
  refine hG9 ?_
  clear hG9
  have hc2 := hE.hc2
  obtain ⟨RR, hRR⟩ : ∃ RR, RR = (d.tp, listOf d.tv.toArray d.kt) :: (L + 1, d.c1) :: (d.pl, listOf d.pv.toArray d.kk) :: (d.vl, listOf d.vv.toArray d.kv) :: (d.wl, LCg.lst d.wv) :: (187, tabObj d.tb2) :: (156, tabObj d.tb) :: (d.X.led w (1 + nls cs) d.tl d.yl [] d.k d.nv d.kp ++ d.tls) := ⟨_, rfl⟩
  replace N : News g L h₁ ((L + 1 + 1, d.c2) :: RR) := by subst hRR; exact news_sub N perm_pl2
  rw [nm1 j5, under (nm1 hN.lexer)] at F
  k_fill
  unfold mark lawA lawV
  have C160 := codeHd160 K
  unfold bd23
  unfold sc23 at *
  simp only [List.drop_succ_cons, List.drop_zero, List.take_succ_cons, List.take_zero]
  k_steps
  unfold Stop
  refine top_use (law_again (w := w) d.X hS.hX (tp := d.tp) (ws := ws) (ps := ps) (base0 := base0) (tb := d.tb0) (kt := d.kt) (k := d.k) (kp := d.kp) (line := 1 + nls cs) (tl := d.tl) (yl := d.yl) (sv := []) (pv := d.nv) hE.htv hps (Nat.lt_of_le_of_lt hwl (by decide)) hb0 (Nat.lt_trans hb (by decide)) hE.htl hnv (Nat.lt_trans hS.hpv (Nat.lt_trans hC.hplv hE.hpt))) ((L + 1 + 1, d.c2) :: (L + 1, d.c1) :: (d.pl, listOf d.pv.toArray d.kk) :: (d.vl, listOf d.vv.toArray d.kv) :: (d.wl, LCg.lst d.wv) :: (187, tabObj d.tb2) :: (156, tabObj d.tb) :: d.tls) B F K N T K T rfl (by decide) (by decide) ?perm ?sep ?_
  case perm => subst hRR; exact perm_6
  case sep =>
    intro p hp q hq
    rcases List.mem_cons.mp hq with rfl | hq
    · exact Nat.ne_of_lt (lows hS.hX hL hS.hlw hS.hwc hS.hpv hC.hplv hE.hpt hE.htp p hp)
    · exact (seps hS.hX hL hS.hlw hS.hwc hS.hpv hC.hplv hC.htls).led p hp q hq
  intro r E' h' tk' hPk1 F' N' _
  refine pack fun G9 hG9 => ?_
  obtain ⟨al, av, ka, kp', rfl, hta, hav, rfl⟩ := hPk1
  refine hG9 ?_
  clear hG9
  clear F N
  replace N' := news_sub N' perm_6b
  k_steps
  rename Fr _ _ _ _ => F9
  rename News _ _ _ _ => N9
  exact MidStep.intro _ F9 N9 ⟨{ d with al := al, av := av, ka := ka, kp := kp' }, ⟨hS.hX, hS.hwv, hS.hvv, hS.hlw, hS.hwc, hS.hpv⟩, ⟨hN.drawn, hN.text, rfl, hN.words⟩, ⟨hC.hT, hC.hc1, hC.hplv, hC.htls⟩, ⟨hav, Nat.lt_trans (Nat.lt_trans hS.hpv (Nat.lt_trans hC.hplv hE.hpt)) hta⟩, rfl, rfl⟩
end
section
local macro_rules | `(tactic| walk_at $s:str) => if ["call builtin:len", "call ref", "exec Assign cons ListComp", "eval ListComp", "pyIter ref", "subscriptTail Name Slice ref ref"].contains s.getString then `(tactic| (refine stopHere ?_)) else Lean.Macro.throwUnsupported
theorem sum_ofNat : ∀ l : List Nat, (l.map Int.ofNat).sum = ((l.sum : Nat) : Int)
  | [] => rfl
  | a :: l => by
    rw [List.map_cons, List.sum_cons, List.sum_cons, sum_ofNat l, Int.natCast_add]
    rfl
structure SG (ws : List PySem.Str) (ps : List (Nat × Nat)) (d : SD) (m : PySem.Str → Option Value) : Prop where
  again : m (PySem.Str.ofString "again") = some (.ref d.al)
  cuts : m (PySem.Str.ofString "cuts") = some (.ref d.ul)
  hav : StrsAre d.av ws
  huv : IntsAre d.uv (((List.range ps.length).map fun k => sumTo (ps.take (k + 1))).map Int.ofNat)
  hpa : @LT.lt Nat _ d.X.pb d.al
  hpu : @LT.lt Nat _ d.X.pb d.ul
noncomputable def JG (w : World) (ws : List PySem.Str) (ps : List (Nat × Nat)) (cs : List Nat) (L : Addr) (m : PySem.Str → Option Value) (nl : List (Addr × Obj)) : Prop :=
  ∃ d : SD, SF ws L d ∧ SN cs d m ∧ SG ws ps d m ∧
    nl = (d.ul, listOf d.uv.toArray d.ku) :: (d.al, listOf d.av.toArray d.ka) :: (d.vl, listOf d.vv.toArray d.kv) :: (d.wl, LCg.lst d.wv) :: (187, tabObj d.tb2) :: (156, tabObj d.tb) :: d.X.led w (1 + nls cs) d.tl d.yl [] d.k [] d.kp
theorem perm_7 {ul pl l1 al vl wl t1 t2 : Addr × Obj} {led tls : List (Addr × Obj)} : ∀ p ∈ ul :: al :: vl :: wl :: t1 :: t2 :: led, p ∈ ul :: l1 :: pl :: al :: vl :: wl :: t1 :: t2 :: (led ++ tls) := fun p hp =>
  sub_then (l' := ul :: al :: vl :: wl :: t1 :: t2 :: (led ++ tls)) (by (((try simp only [List.cons_append, List.nil_append]); refine (?_ : HintTo _ _ _ _) (by repeat' (with_reducible (first | exact pkA | apply pkB | apply pkC | exact pkD | apply pkE | exact pkF | apply pkG))); exact fun _ => sub_pick rfl))) (List.mem_append_left (as := ul :: al :: vl :: wl :: t1 :: t2 :: led) tls hp)
set_option maxRecDepth 100000 in
set_option maxHeartbeats 8000000 in
theorem lb7 {w : World} {mean : ExcName → Option Value} {mg mb : PySem.Str → Option Value} {base g : Heap} {L fa : Addr} {cd : Value} {ws : List PySem.Str} {ps : List (Nat × Nat)} {cs : List Nat} {h₁ : Heap} {s : Shared} {tk : Nat} {m : PySem.Str → Option Value} {nl : List (Addr × Obj)}
    (hL : @LT.lt Nat _ 191 L) (B : Below callerA base [] g) (K : (K01 w.params).In g) (T : Top topProg looseQ mean mg mb g) (hwl : ws.length ≤ 15)
    (hps : Pieces (rowOf ws).2 ps (rowOf ws).2.length) (J : JF w ws ps cs L m nl) (F : Fr g L h₁ m) (N : News g L h₁ nl) :
    mark PySem.Challenge.rw_us0019_01 K01 (wpAny (model P1 w) (lawA L fa cd) (execs ((bd23.drop 9).take 1) (lawV L fa cd)) (MidStep g L s (JG w ws ps cs L)) noE { s with heap := h₁, toks := tk }) := by
  refine pack fun G9 hG9 => ?_
  obtain ⟨d, hS, hN, hC, ⟨hav, hpa⟩, j5, rfl⟩ := J
  refine hG9 ?_
  clear hG9
  have hc1 := hC.hc1
  obtain ⟨RR, hRR⟩ : ∃ RR, RR = (d.al, listOf d.av.toArray d.ka) :: (d.vl, listOf d.vv.toArray d.kv) :: (d.wl, LCg.lst d.wv) :: (187, tabObj d.tb2) :: (156, tabObj d.tb) :: (d.X.led w (1 + nls cs) d.tl d.yl [] d.k [] d.kp ++ d.tls) := ⟨_, rfl⟩
  have hsub : ∀ p ∈ d.tls, p ∈ RR := by
    subst hRR
    exact fun p hp => .tail _ (.tail _ (.tail _ (.tail _ (.tail _ (List.mem_append_right _ hp)))))
  have hpbR : (d.X.pb, listOf [].toArray d.kp) ∈ RR := by
    subst hRR
    exact .tail _ (.tail _ (.tail _ (.tail _ (.tail _ (List.mem_append_left _ Lx.pb_mem)))))
  rw [← hRR] at N
  have hrl := (rowOf_len _ ws rfl).2
  refine pack fun G9 hG9 => ?_
  obtain ⟨hpl, hsm⟩ := pieces_small (n := 15) (by omega) hps (Nat.le_refl _)
  obtain ⟨v₁, v₂, hfn⟩ := hC.hT.fns
  refine hG9 ?_
  clear hG9
  have hpvl := hC.hT.length
  k_fill
  unfold mark lawA lawV
  have C160 := codeHd160 K
  unfold bd23
  unfold sc23 at *
  simp only [List.drop_succ_cons, List.drop_zero, List.take_succ_cons, List.take_zero]
  k_steps
  unfold Stop
  refine Assign_own (cl := [(PySem.Str.ofString "pieces", L + 1)]) (by with_unfolding_all rfl) (by rfl) (by rfl) (by decide) ?_
  k_steps
  unfold Stop
  refine len_led (by assumption) (show (d.pl, listOf d.pv.toArray d.kk) ∈ _ by k_mem) (by omega) ?_
  intro tn tkn
  rw [hpvl]
  k_steps
  unfold Stop
  rename IsRange _ _ _ _ _ _ _ _ => hr7
  rename Fr _ _ _ _ => F6
  rename News _ _ _ _ => N6
  refine top_range ps.length (by decide) (by rfl) (by simp) rfl (fun i ys _ nl => IntsAre ys (((List.range i).map fun k => sumTo (ps.take (k + 1))).map Int.ofNat) ∧
    nl = (L + 1, d.c1) :: (d.pl, listOf d.pv.toArray d.kk) :: RR)
    (fun _ v m₂ m₃ => m₃ = setN m₂ (PySem.Str.ofString "k") v) 0 hr7 (range_small (by omega) (by omega)) (range_size1 (by omega)) F6 N6 (Nat.zero_le _) ⟨.nil, rfl⟩ (fun I C => takes_name (by rfl) (by rfl)) ?turn3 ?done3
  case turn3 =>
    intro I C D4 i t9 ys m₂ m₃ nl oI oC h tk hI hID hDC hi hPk1 hPk2 hoC _ F N off ne
    refine pack fun G9 hG9 => ?_
    obtain ⟨hys, rfl⟩ := hPk1
    obtain rfl := hPk2
    refine hG9 ?_
    clear hG9
    clear F6 N6
    rw [show (0 : Int) + (i : Int) = (i : Int) from Int.zero_add _] at hoC
    refine testsOf_nil ?_
    rw [if_pos rfl]
    have hyl := hys.length
    rw [List.length_map, List.length_map, List.length_range] at hyl
    generalize hm3 : setN m₂ (PySem.Str.ofString "k") (.int (i : Int) t9) = m₃ at hoC
    have hm : m₃ (PySem.Str.ofString "k") = some (.int (i : Int) t9) := by rw [← hm3]; rfl
    refine cin_end (ys := ys) ⟨_, _, rfl⟩ (by rfl) hoC (by rw [sizeLine_eq]; omega) ?_
    k_steps
    unfold Stop
    refine ListComp_own (cl := []) (by rfl) (by rfl) (by decide) ?_
    k_steps
    unfold Stop
    rename Fr _ _ _ _ => F5
    rename News _ _ _ _ => N5
    refine slice_base (l := d.pl) (vs := d.pv) (b := i + 1) F5 N5 (News.isList N5 (show (d.pl, listOf d.pv.toArray d.kk) ∈ _ by k_mem)) (by omega) (by omega) ?_
    intro D5 h5 F5' N5' hlt5
    clear F5 N5
    dsimp only
    k_steps
    unfold Stop
    rename Fr _ _ _ _ => F5
    rename News _ _ _ _ => N5
    refine top_list (l := D5) (vs := d.pv.take (i + 1)) (k := 0) (by decide) (by rfl) (by intro g' hg; cases hg) rfl (fun j ys2 _ nl => IntsAre ys2 ((((ps.take (i + 1)).take j).map fun pc => max 1 pc.1).map Int.ofNat) ∧
      nl = (D5, listOf (d.pv.take (i + 1)).toArray 0) :: (I, oI) :: (C, oC) :: (D4, LCg.lst ys) :: (L + 1, d.c1) :: (d.pl, listOf d.pv.toArray d.kk) :: RR)
      (fun j _ m₂ m₃ => m₃ = setN (setN m₂ (PySem.Str.ofString "size") (v₁ j)) (PySem.Str.ofString "back") (v₂ j)) 0 (by rintro i ys m₂ nl ⟨_, rfl⟩; exact .head _) F5 N5 (Nat.zero_le _) ⟨.nil, rfl⟩ ?tak ?turn4 ?done4
    case tak =>
      intro I C
      refine takes_pair v₁ v₂ rfl (by rfl) (by rfl) (by rfl) (fun i h hst => ⟨D5, i, hst.1⟩) ?_
      intro j v ys m₂ nl hj hv hPk3
      refine pack fun G9 hG9 => ?_
      obtain ⟨_, rfl⟩ := hPk3
      refine hG9 ?_
      clear hG9
      have hj' : j < i + 1 ∧ j < ps.length := by
        rw [List.size_toArray, List.length_take, hpvl] at hj
        omega
      refine pack fun G9 hG9 => ?_
      obtain ⟨a, tx, ty, h1, h2, h3, h4⟩ := hfn j hj'.2
      refine hG9 ?_
      clear hG9
      have hv' : v = .ref a := by
        rw [List.getElem?_toArray, List.getElem?_take, if_pos hj'.1, h1] at hv
        exact (Option.some.inj hv).symm
      exact ⟨a, { cls := .type "tuple", data := .seq #[v₁ j, v₂ j] }, _, hv', .tail _ (.tail _ (.tail _ (.tail _ (.tail _ (.tail _ (hsub _ h4)))))), rfl, rfl⟩
    case turn4 =>
      intro I2 C2 D6 j v ys2 m₄ m₅ nl oI2 oC2 h tk hI' hID' hDC' hv hPk4 hPk5 hoC2 _ F N off2 ne2
      refine pack fun G9 hG9 => ?_
      obtain ⟨hys2, rfl⟩ := hPk4
      obtain rfl := hPk5
      refine hG9 ?_
      clear hG9
      clear F5 N5
      have hj' : j < i + 1 ∧ j < ps.length := by
        have := (List.getElem?_eq_some_iff.mp hv).1
        rw [List.length_take, hpvl] at this
        omega
      refine pack fun G9 hG9 => ?_
      obtain ⟨a, tx, ty, h1, h2, h3, h4⟩ := hfn j hj'.2
      refine hG9 ?_
      clear hG9
      have hpi : (ps.take (i + 1))[j]? = some (ps.getD j (0, 0)) := by
        rw [List.getElem?_take, if_pos hj'.1, List.getD_eq_getElem?_getD, List.getElem?_eq_getElem hj'.2]
        rfl
      generalize ps.getD j (0, 0) = pc at *
      refine testsOf_nil ?_
      rw [if_pos rfl]
      have hyl2 : ys2.length ≤ 15 := by
        have := hys2.length
        rw [List.length_map, List.length_map, List.length_take, List.length_take] at this
        omega
      refine cin_end (ys := ys2) ⟨_, _, rfl⟩ (by rfl) hoC2 (by rw [sizeLine_eq]; omega) ?_
      rw [h2, h3] at hoC2
      generalize hm5 : setN (setN m₄ (PySem.Str.ofString "size") (.int (pc.1 : Int) tx)) (PySem.Str.ofString "back") (.int (pc.2 : Int) ty) = m₅ at hoC2
      have hm : m₅ (PySem.Str.ofString "size") = some (.int (pc.1 : Int) tx) := by rw [← hm5]; rfl
      k_steps
      rw [show (if (pc.1 : Int) > 1 then (pc.1 : Int) else 1) = ((max 1 pc.1 : Nat) : Int) by split <;> omega]
      refine LCg.CompEnd.intro (by assumption) (by assumption) _ ?sub9 off2 ⟨ne2.2.1, ne2.2.2⟩ ⟨?_, rfl⟩
      case sub9 => (((try simp only [List.cons_append, List.nil_append]); refine (?_ : HintTo _ _ _ _) (by repeat' (with_reducible (first | exact pkA | apply pkB | apply pkC | exact pkD | apply pkE | exact pkF | apply pkG))); exact fun _ => sub_pick rfl))
      rw [List.take_add_one, hpi, List.map_append, List.map_append]
      exact ints_app hys2 (.cons _ _ .nil)
    case done4 =>
      intro D6 C2 h tk m' ys2 nl hD6 hPk6 _ F N hn hC₀ hD₀ hCL hDL hCD off2
      refine pack fun G9 hG9 => ?_
      obtain ⟨hys2, rfl⟩ := hPk6
      refine hG9 ?_
      clear hG9
      refine finD_eval D6 C2 h tk m' ys2 _ F N hn hC₀ hCL hDL hCD (fun p hp => (off2 p hp).1) ?_
      clear F N F5 N5
      intro h F N
      have hpl9 : (d.pv.take (i + 1)).length = (ps.take (i + 1)).length := by rw [List.length_take, List.length_take, hpvl]
      rw [hpl9, List.take_length] at hys2
      have hyl2 : ys2.length ≤ 15 := by
        have := hys2.length
        rw [List.length_map, List.length_map, List.length_take] at this
        omega
      have hl6 : h.IsList D6 ys2.toArray := News.isList N (.head _)
      k_steps
      rw [sum_ofNat]
      refine LCg.CompEnd.intro (by assumption) (by assumption) _ ?sub9 off ⟨ne.2.1, ne.2.2⟩ ⟨?_, rfl⟩
      case sub9 => (((try simp only [List.cons_append, List.nil_append]); refine (?_ : HintTo _ _ _ _) (by repeat' (with_reducible (first | exact pkA | apply pkB | apply pkC | exact pkD | apply pkE | exact pkF | apply pkG))); exact fun _ => sub_pick rfl))
      rw [List.range_succ, List.map_append, List.map_append]
      exact ints_app hys (.cons _ _ .nil)
  case done3 =>
    intro D4 C h tk m' ys nl hD4 hPk7 htk F N hn hC₀ hD₀ hCL hDL hCD off
    refine pack fun G9 hG9 => ?_
    obtain ⟨hys, rfl⟩ := hPk7
    refine hG9 ?_
    clear hG9
    clear F6 N6
    refine finA_use (s := s) F N hn hC₀ hCL hDL hCD off ?_
    clear F N
    intro h F N
    have hpu : @LT.lt Nat _ d.X.pb D4 := hD4 _ (.tail _ (.tail _ hpbR))
    k_steps
    rename Fr _ _ _ _ => F9
    rename News _ _ _ _ => N9
    subst hRR
    exact MidStep.intro _ F9 (news_sub N9 perm_7) ⟨{ d with ul := D4, uv := ys, ku := ys.length }, ⟨hS.hX, hS.hwv, hS.hvv, hS.hlw, hS.hwc, hS.hpv⟩, ⟨hN.drawn, hN.text, hN.lexer, hN.words⟩, ⟨j5, rfl, hav, hys, hpa, hpu⟩, rfl⟩
end
section
local macro_rules | `(tactic| walk_at "no such") => `(tactic| skip)
local macro_rules | `(tactic| walk_at $s:str) => if ["call ref", "compareOp Eq ref ref"].contains s.getString then `(tactic| (refine stopHere ?_)) else Lean.Macro.throwUnsupported
theorem perm_8 {ul al vl wl t1 t2 : Addr × Obj} {led : List (Addr × Obj)} : ∀ p ∈ wl :: ul :: al :: vl :: t1 :: t2 :: led, p ∈ ul :: al :: vl :: wl :: t1 :: t2 :: led := by (((try simp only [List.cons_append, List.nil_append]); refine (?_ : HintTo _ _ _ _) (by repeat' (with_reducible (first | exact pkA | apply pkB | apply pkC | exact pkD | apply pkE | exact pkF | apply pkG))); exact fun _ => sub_pick rfl))
theorem perm_8b {fl ul al vl wl t1 t2 : Addr × Obj} {led : List (Addr × Obj)} : ∀ p ∈ led ++ [fl, wl, ul, al, vl, t1, t2], p ∈ fl :: wl :: ul :: al :: vl :: t1 :: t2 :: led := fun _ hp => mem_swap hp
theorem Lx.Ok.ctopb {X : Lx} (hX : X.Ok) : @LT.lt Nat _ X.c X.pb := by
  refine pack fun G9 hG9 => ?_
  obtain ⟨o1, o2, o3, o4, o5, o6, o7, o8⟩ := hX.ord
  refine hG9 ?_
  clear hG9
  exact Nat.lt_trans o1 (Nat.lt_trans o2 (Nat.lt_trans o3 (Nat.lt_trans o4 (Nat.lt_trans o5 (Nat.lt_trans o6 (Nat.lt_trans o7 o8))))))
theorem nls_cnt : ∀ cs : List Nat, cnt 10 cs = nls cs
  | [] => rfl
  | c :: cs => by
    rw [cnt_cons, nls_cnt cs, show nls (c :: cs) = isNl (c :: cs) + nls cs from rfl]
    by_cases h : c = 10
    · subst h; rfl
    · rw [if_neg h]
      have : isNl (c :: cs) = 0 := by
        unfold isNl
        split
        · rename_i h2
          exact absurd (List.cons.inj h2).1 h
        · rfl
      rw [this]
theorem count_nl (cs : List Nat) : Txt.count (strOf cs) (PySem.Str.ofString "\n") = nls cs := by
  rw [nl_str]
  exact (count_cnt (strOf cs) 10).trans (nls_cnt cs)
set_option maxRecDepth 100000 in
set_option maxHeartbeats 8000000 in
theorem lb8 {w : World} {mean : ExcName → Option Value} {mg mb : PySem.Str → Option Value} {base g : Heap} {L fa : Addr} {cd : Value} {ws : List PySem.Str} {ps : List (Nat × Nat)} {cs : List Nat} {h₁ : Heap} {s : Shared} {tk : Nat} {m : PySem.Str → Option Value} {nl : List (Addr × Obj)}
    (hL : @LT.lt Nat _ 191 L) (B : Below callerA base [] g) (K : (K01 w.params).In g) (T : Top topProg looseQ mean mg mb g) (hwl : ws.length ≤ 15) (hok : StrsOk ws) (hcs : cs.length < 100000)
    (hps : Pieces (rowOf ws).2 ps (rowOf ws).2.length) (J : JG w ws ps cs L m nl) (F : Fr g L h₁ m) (N : News g L h₁ nl) :
    mark PySem.Challenge.rw_us0019_01 K01 (wpAny (model P1 w) (lawA L fa cd) (execs (bd23.drop 10) (lawV L fa cd)) (LawEnd g L s) noE { s with heap := h₁, toks := tk }) := by
  refine pack fun G9 hG9 => ?_
  obtain ⟨d, hS, hN, hG, rfl⟩ := J
  refine hG9 ?_
  clear hG9
  obtain ⟨R, hR⟩ : ∃ R, R = (d.ul, listOf d.uv.toArray d.ku) :: (d.al, listOf d.av.toArray d.ka) :: (d.vl, listOf d.vv.toArray d.kv) :: (187, tabObj d.tb2) :: (156, tabObj d.tb) :: d.X.led w (1 + nls cs) d.tl d.yl [] d.k [] d.kp := ⟨_, rfl⟩
  replace N : News g L h₁ ((d.wl, LCg.lst d.wv) :: R) := by subst hR; exact news_sub N perm_8
  have mv : (d.vl, listOf d.vv.toArray d.kv) ∈ R := by subst hR; exact .tail _ (.tail _ (.head _))
  have ma : (d.al, listOf d.av.toArray d.ka) ∈ R := by subst hR; exact .tail _ (.head _)
  have mu : (d.ul, listOf d.uv.toArray d.ku) ∈ R := by subst hR; exact .head _
  have hwX : @LT.lt Nat _ d.wl d.X.pb := Nat.lt_trans hS.hwc (hS.hX.ctopb)
  have hLw : @LT.lt Nat _ 191 d.wl := Nat.lt_trans hL (Nat.lt_of_succ_lt (Nat.lt_of_succ_lt hS.hlw))
  rw [nm1 hN.drawn, under (nm1 hN.text), under (under (nm1 hN.lexer)), under (under (under (nm1 hN.words))), under (under (under (under (nm1 hG.again)))), under (under (under (under (under (nm1 hG.cuts)))))] at F
  k_fill
  unfold mark lawA lawV
  have C160 := codeHd160 K
  unfold bd23
  unfold sc23 at *
  simp only [List.drop_succ_cons, List.drop_zero]
  k_steps
  unfold Stop
  refine ks_eq (a := d.vl) (b := d.wl) (xs := d.vv) (ys := d.wv) (News.isList N (.tail _ mv)) (News.isList N (.head _)) hS.hvv hS.hwv hok hok (by dsimp only [ktrTop]; decide) ?_
  rw [decide_eq_true rfl]
  k_steps
  unfold Stop
  refine spec_use (law_farthest (w := w) (rl := d.wl) (rv := d.wv) (kr := d.wv.length) hS.hwv hok (Nat.lt_succ_of_le hwl)) R B F K N T rfl (by decide) (by decide) (fun _ h => h) ?sep ?_
  case sep =>
    intro p hp q hq
    rw [List.mem_singleton.mp hq]
    subst hR
    rcases List.mem_cons.mp hp with rfl | hp
    · exact Nat.ne_of_gt (Nat.lt_trans hwX hG.hpu)
    rcases List.mem_cons.mp hp with rfl | hp
    · exact Nat.ne_of_gt (Nat.lt_trans hwX hG.hpa)
    rcases List.mem_cons.mp hp with rfl | hp
    · exact Nat.ne_of_gt (Nat.lt_trans hwX hS.hpv)
    rcases List.mem_cons.mp hp with rfl | hp
    · exact Nat.ne_of_lt (Nat.lt_trans (show (187 : Nat) < 191 by decide) hLw)
    rcases List.mem_cons.mp hp with rfl | hp
    · exact Nat.ne_of_lt (Nat.lt_trans (show (156 : Nat) < 191 by decide) hLw)
    exact hS.hX.nine (.inl hS.hwc) p hp
  intro r E' h' tk' hPk1 F' N' hn'
  refine pack fun G9 hG9 => ?_
  obtain ⟨fl, fv, kf, rfl, hfv, rfl⟩ := hPk1
  refine hG9 ?_
  clear hG9
  have hfl : d.X.Sep [(fl, listOf fv.toArray kf)] := by
    rcases hn' _ (.head _) with h | h
    · have h : fl = d.wl := by simpa using h
      rw [h]
      exact Lx.sep_nil.cons (hS.hX.below hS.hwc)
    · exact Lx.sep_nil.cons (hS.hX.above (h (d.X.pb, listOf [].toArray d.kp) (by rw [hR]; repeat (first | exact Lx.pb_mem | apply List.Mem.tail))))
  clear hn' F N
  k_steps
  unfold Stop
  rename Fr _ _ _ _ => F
  rename News _ _ _ _ => N
  refine ki_eq (a := d.ul) (b := fl) (xs := d.uv) (ys := fv) (News.isList N (.tail _ (.tail _ mu))) (News.isList N (.head _)) hG.huv hfv (by dsimp only [ktrTop]; decide) ?_
  rw [pieces_cuts_all hps, decide_eq_true rfl]
  k_steps
  unfold Stop
  rename Fr _ _ _ _ => F
  rename News _ _ _ _ => N
  refine ks_eq (a := d.al) (b := d.wl) (xs := d.av) (ys := d.wv) (News.isList N (.tail _ (.tail _ ma))) (News.isList N (.tail _ (.head _))) hG.hav hS.hwv hok hok (by dsimp only [ktrTop]; decide) ?_
  rw [decide_eq_true rfl]
  obtain ⟨R2, hR2⟩ : ∃ R2, R2 = [(fl, listOf fv.toArray kf), (d.wl, LCg.lst d.wv), (d.ul, listOf d.uv.toArray d.ku), (d.al, listOf d.av.toArray d.ka), (d.vl, listOf d.vv.toArray d.kv), (187, tabObj d.tb2), (156, tabObj d.tb)] := ⟨_, rfl⟩
  have hS2 : d.X.Sep R2 := by
    have h0 := hfl _ (.head _)
    have h5 : @LT.lt Nat _ 191 d.X.c := Nat.lt_trans hLw hS.hwc
    subst hR2
    exact Lx.Sep.cons (Lx.Sep.cons (Lx.Sep.cons (Lx.Sep.cons (Lx.Sep.cons (Lx.Sep.cons (Lx.Sep.cons Lx.sep_nil (hS.hX.below (Nat.lt_trans (show (156 : Nat) < 191 by decide) h5))) (hS.hX.below (Nat.lt_trans (show (187 : Nat) < 191 by decide) h5))) (hS.hX.above hS.hpv)) (hS.hX.above hG.hpa)) (hS.hX.above hG.hpu)) (hS.hX.below hS.hwc)) h0
  replace N := news_sub (l' := d.X.led w (1 + nls cs) d.tl d.yl [] d.k [] d.kp ++ R2) N (by subst hR2 hR; exact perm_8b)
  obtain ⟨T0, hT0⟩ : ∃ T0, T0 = ([(d.X.y, instObj 86 d.X.dy), (d.X.dy, dictOf [dE w "lineno" d.X.u1 d.yl, dE w "instream" d.X.u2 .none, dE w "whitespace" d.X.u3 (.str (PySem.Str.ofString "\n\t\r ") d.X.u3'), dE w "pushback" d.X.u4 (.ref d.X.ypb), dE w "read" d.X.u5 (.ref d.X.f)] 5)] ++ d.X.rd [] d.k ++ [(d.X.pb, listOf [].toArray d.kp)]) ++ R2 := ⟨_, rfl⟩
  replace N := news_sub (l' := (d.X.x, instObj 86 d.X.dx) :: (d.X.dx, dictOf [dE w "lineno" d.X.t1 (.int (1 + nls cs) d.tl), dE w "instream" d.X.t2 (.ref d.X.y), dE w "whitespace" d.X.t3 (.str (PySem.Str.ofString "\n\t\r ") d.X.t3'), dE w "pushback" d.X.t4 (.ref d.X.pb)] 4) :: T0) N (by subst hT0; exact fun _ h => h)
  k_steps
  unfold Stop
  rename Fr _ _ _ _ => F
  rename News _ _ _ _ => N
  refine spec_use (get_token (w := w) d.X hS.hX (line := 1 + nls cs) (tl := d.tl) (yl := d.yl) (k := d.k) (kp := d.kp) (sv := []) (cs := []) (tok := []) (rst := []) .nil (by intro x hx; cases hx) (by decide) (by have := nls_ge (l := cs); omega) (by have := nls_le (l := cs); show 1 + nls cs + 0 < _; omega) (by decide)) R2 B F K N T rfl (by decide) (by decide) (by subst hT0; exact fun _ h => h) hS2.led ?_
  intro r E' h' tk' hPk2 F' N' _
  refine pack fun G9 hG9 => ?_
  obtain ⟨sv', k', t', tl', rfl, hsv', rfl⟩ := hPk2
  refine hG9 ?_
  clear hG9
  clear F N
  obtain ⟨T1, hT1⟩ : ∃ T1, T1 = ([(d.X.y, instObj 86 d.X.dy), (d.X.dy, dictOf [dE w "lineno" d.X.u1 d.yl, dE w "instream" d.X.u2 .none, dE w "whitespace" d.X.u3 (.str (PySem.Str.ofString "\n\t\r ") d.X.u3'), dE w "pushback" d.X.u4 (.ref d.X.ypb), dE w "read" d.X.u5 (.ref d.X.f)] 5)] ++ d.X.rd sv' k' ++ [(d.X.pb, listOf [].toArray d.kp)]) ++ R2 := ⟨_, rfl⟩
  replace N' := news_sub (l' := (d.X.x, instObj 86 d.X.dx) :: (d.X.dx, dictOf [dE w "lineno" d.X.t1 (.int (1 + nls cs + nls [] - nls []) tl'), dE w "instream" d.X.t2 (.ref d.X.y), dE w "whitespace" d.X.t3 (.str (PySem.Str.ofString "\n\t\r ") d.X.t3'), dE w "pushback" d.X.t4 (.ref d.X.pb)] 4) :: T1) N' (by subst hT1; exact fun _ h => h)
  have mt : ∀ p ∈ [(156, tabObj d.tb), (187, tabObj d.tb2)], p ∈ T1 := by subst hT1; exact fun p hp => List.mem_append_right _ ((show ∀ p ∈ [(156, tabObj d.tb), (187, tabObj d.tb2)], p ∈ R2 by subst hR2; (((try simp only [List.cons_append, List.nil_append]); refine (?_ : HintTo _ _ _ _) (by repeat' (with_reducible (first | exact pkA | apply pkB | apply pkC | exact pkD | apply pkE | exact pkF | apply pkG))); exact fun _ => sub_pick rfl))) p hp)
  k_steps
  rename Fr _ _ _ _ => F9
  rename News _ _ _ _ => N9
  refine ⟨?_, _, _, _, d.tb, d.tb2, [], rfl, F9, news_sub N9 (fun p hp => .tail _ (.tail _ (mt p hp)))⟩
  rw [count_nl, show 1 + nls cs + nls [] - nls [] = 1 + nls cs by omega, beq_self_eq_true]
end
section
set_option tactic.hygienic false
noncomputable def tokOf (n : Int) : List Nat := wordB (n / 12 % 4) (wordA (n / 3 % 4) (n % 3))
noncomputable def plainN (r : Nat) : PySem.Str := PySem.Str.ofString (if r = 0 then "s" else if r = 1 then "ss" else "s\ns")
theorem tok_f1 : ∀ d, d < 4 → ∀ f, f < 4 → ∀ r, r < 3 → strOf (prepC (wordB (d : Nat) (wordA (f : Nat) (r : Nat)))) = plainN r := by decide +kernel
theorem tok_f2 : ∀ d, d < 4 → ∀ f, f < 4 → ∀ r, r < 3 → (wordB (d : Nat) (wordA (f : Nat) (r : Nat))).all (fun c => decide (c ∈ theSigns)) = true := by decide +kernel
theorem tok_f3 : ∀ d, d < 4 → ∀ f, f < 4 → ∀ r, r < 3 → (wordB (d : Nat) (wordA (f : Nat) (r : Nat))).length ≤ 4 ∧ 0 < (wordB (d : Nat) (wordA (f : Nat) (r : Nat))).length := by decide +kernel
theorem tok_facts (d : Nat) (hd : d < 4) (f : Nat) (hf : f < 4) (r : Nat) (hr : r < 3) : strOf (prepC (wordB (d : Nat) (wordA (f : Nat) (r : Nat)))) = plainN r ∧ (∀ c ∈ wordB (d : Nat) (wordA (f : Nat) (r : Nat)), c ∈ theSigns) ∧ wordB (d : Nat) (wordA (f : Nat) (r : Nat)) ≠ [] ∧ (wordB (d : Nat) (wordA (f : Nat) (r : Nat))).length ≤ 4 :=
  ⟨tok_f1 d hd f hf r hr, fun c hc => of_decide_eq_true (List.all_eq_true.mp (tok_f2 d hd f hf r hr) c hc), List.ne_nil_of_length_pos (tok_f3 d hd f hf r hr).2, (tok_f3 d hd f hf r hr).1⟩
theorem modN (n : Int) (k : Nat) (hk : 0 < k) : ∃ d : Nat, d < k ∧ n % (k : Int) = (d : Int) := by
  have h0 := Int.emod_nonneg n (show (k : Int) ≠ 0 by omega)
  have h1 := Int.emod_lt_of_pos n (show (0 : Int) < (k : Int) by omega)
  exact ⟨(n % (k : Int)).toNat, (Int.toNat_lt h0).mpr h1, (Int.toNat_of_nonneg h0).symm⟩
theorem lt3 {r : Nat} (h : r < 3) : r = 0 ∨ r = 1 ∨ r = 2 := by omega
theorem tok_of (n : Int) : strOf (prepC (tokOf n)) = plainOf n ∧ (∀ c ∈ tokOf n, c ∈ theSigns) ∧ tokOf n ≠ [] ∧ (tokOf n).length ≤ 4 := by
  obtain ⟨d, hd, ed⟩ : ∃ d : Nat, d < 4 ∧ n / 12 % 4 = (d : Int) := modN (n / 12) 4 (by decide)
  obtain ⟨f, hf, ef⟩ : ∃ d : Nat, d < 4 ∧ n / 3 % 4 = (d : Int) := modN (n / 3) 4 (by decide)
  obtain ⟨r, hr, er⟩ : ∃ d : Nat, d < 3 ∧ n % 3 = (d : Int) := modN n 3 (by decide)
  obtain ⟨h1, h2, h3, h4⟩ := tok_facts d hd f hf r hr
  unfold tokOf
  rw [ed, ef, er]
  refine ⟨h1.trans ?_, h2, h3, h4⟩
  unfold plainN plainOf
  rw [er]
  rcases lt3 hr with rfl | rfl | rfl <;> rfl
theorem signs_not {c : Nat} (h : c ∈ theSigns) : c ≠ 34 ∧ c ≠ 92 ∧ (c ≠ 10 → isWs c = false) := by
  have key : ∀ c ∈ theSigns, c ≠ 34 ∧ c ≠ 92 ∧ (c ≠ 10 → isWs c = false) := by decide
  exact key c h
theorem lexQ_word : ∀ (w : List Nat) (r : List Nat), (∀ c ∈ w, c ∈ theSigns) → lexQ (w ++ 34 :: r) = some (w, r)
  | [], r, _ => by rw [List.nil_append]; unfold lexQ; rw [if_pos rfl]
  | c :: w, r, h => by
    obtain ⟨h1, h2, _⟩ := signs_not (h c (.head _))
    rw [List.cons_append]
    unfold lexQ
    rw [if_neg h1, if_neg h2, lexQ_word w r fun x hx => h x (.tail _ hx)]
    rfl
theorem lexP_esc : ∀ (w : List Nat) (d : Nat) (r : List Nat), isWs d = true → lexP (w.flatMap (fun c => [92, c]) ++ d :: r) = some (w, r)
  | [], d, r, hd => by
    rw [List.flatMap_nil, List.nil_append]
    unfold lexP
    rw [if_pos hd]
  | c :: w, d, r, hd => by
    rw [List.flatMap_cons, List.append_assoc, List.cons_append, List.cons_append, List.nil_append]
    unfold lexP
    rw [if_neg (by decide), if_pos rfl]
    dsimp only
    rw [lexP_esc w d r hd]
    rfl
theorem lexP_bare : ∀ (w : List Nat) (d : Nat) (r : List Nat), isWs d = true → (∀ c ∈ w, c ∈ theSigns) → lexP (w.flatMap (fun c => if c = 10 then [92, 10] else [c]) ++ d :: r) = some (w, r)
  | [], d, r, hd, _ => by
    rw [List.flatMap_nil, List.nil_append]
    unfold lexP
    rw [if_pos hd]
  | c :: w, d, r, hd, h => by
    obtain ⟨h1, h2, h3⟩ := signs_not (h c (.head _))
    rw [List.flatMap_cons, List.append_assoc]
    have ih := lexP_bare w d r hd fun x hx => h x (.tail _ hx)
    by_cases hc : c = 10
    · rw [if_pos hc, List.cons_append, List.cons_append, List.nil_append]
      unfold lexP
      rw [if_neg (by decide), if_pos rfl]
      dsimp only
      rw [ih, hc]
      rfl
    · rw [if_neg hc, List.cons_append, List.nil_append]
      unfold lexP
      rw [if_neg (by rw [h3 hc]; decide), if_neg h2, ih]
      rfl
theorem wordD_ws (e : Int) : isWs (wordD e) = true := by
  unfold wordD
  split
  · rfl
  · split
    · rfl
    · split <;> rfl
theorem lexT_cons (c : Nat) (r : List Nat) : lexT (c :: r) = if isWs c then lexT r else if c = 34 then lexQ r else if c = 92 then (match r with
      | [] => none
      | e :: q => (lexP q).map fun p => (e :: p.1, p.2)) else (lexP r).map fun p => (c :: p.1, p.2) := by
  cases r <;> rfl
theorem lexT_ws {d : Nat} (hd : isWs d = true) (r : List Nat) : lexT (d :: r) = lexT r := by
  rw [lexT_cons, if_pos hd]
theorem Toks.ws {d : Nat} (hd : isWs d = true) {r : List Nat} {l : List (List Nat)} (h : Toks r l) : Toks (d :: r) l := by
  cases h with
  | done h => exact .done (by rw [lexT_ws hd]; exact h)
  | more h hn q => exact .more (by rw [lexT_ws hd]; exact h) hn q
theorem toks_word {w : List Nat} {d : Nat} {q : Int} {r : List Nat} {l : List (List Nat)} (hw : ∀ c ∈ w, c ∈ theSigns) (hn : w ≠ []) (hd : isWs d = true) (h : Toks r l) : Toks (wordC q w ++ d :: r) (w :: l) := by
  unfold wordC
  by_cases h0 : q = 0
  · rw [if_pos h0]
    refine .more (rst := d :: r) ?_ hn (h.ws hd)
    rw [List.cons_append, List.append_assoc, List.cons_append, List.nil_append, lexT_cons, if_neg (by decide), if_pos rfl]
    exact lexQ_word w _ hw
  · rw [if_neg h0]
    cases w with
    | nil => exact absurd rfl hn
    | cons c w =>
      by_cases h1 : q = 1
      · rw [if_pos h1]
        refine .more (rst := r) ?_ hn h
        rw [List.flatMap_cons, List.append_assoc, List.cons_append, List.cons_append, List.nil_append, lexT_cons, if_neg (by decide), if_neg (by decide), if_pos rfl]
        show (lexP _).map _ = _
        rw [lexP_esc w d r hd]
        rfl
      · rw [if_neg h1]
        refine .more (rst := r) ?_ hn h
        obtain ⟨a1, a2, a3⟩ := signs_not (hw c (.head _))
        have ih := lexP_bare w d r hd fun x hx => hw x (.tail _ hx)
        rw [List.flatMap_cons, List.append_assoc]
        by_cases hc : c = 10
        · rw [if_pos hc, List.cons_append, List.cons_append, List.nil_append, lexT_cons, if_neg (by decide), if_neg (by decide), if_pos rfl]
          show (lexP _).map _ = _
          rw [ih, hc]
          rfl
        · rw [if_neg hc, List.cons_append, List.nil_append, lexT_cons, if_neg (by rw [a3 hc]; decide), if_neg a1, if_neg a2, ih]
          rfl
theorem toks_text : ∀ ds : List Int, Toks (textOf ds) (ds.map tokOf)
  | [] => .done rfl
  | n :: ds => by
    have h := toks_text ds
    obtain ⟨_, h2, h3, _⟩ := tok_of n
    unfold textOf at *
    rw [List.map_cons, List.flatten_cons, List.map_cons]
    unfold written
    rw [List.append_assoc, List.cons_append, List.nil_append]
    exact toks_word h2 h3 (wordD_ws _) h
theorem signs_ok {c : Nat} (h : c ∈ theSigns) : c < 0x110000 := by
  have key : ∀ c ∈ theSigns, c < 0x110000 := by decide
  exact key c h
theorem written_ok (n : Int) : ∀ c ∈ written n, c < 0x110000 := by
  obtain ⟨_, h2, _, _⟩ := tok_of n
  have hw : ∀ c ∈ tokOf n, c < 0x110000 := fun c hc => signs_ok (h2 c hc)
  intro c hc
  unfold written at hc
  change c ∈ wordC (n / 48 % 3) (tokOf n) ++ _ at hc
  rcases List.mem_append.mp hc with hc | hc
  · unfold wordC at hc
    split at hc
    · simp only [List.mem_cons, List.mem_append, List.not_mem_nil, or_false] at hc
      rcases hc with rfl | hc | rfl
      · decide
      · exact hw c hc
      · decide
    · split at hc
      · obtain ⟨x, hx, hc⟩ := List.mem_flatMap.mp hc
        simp only [List.mem_cons, List.not_mem_nil, or_false] at hc
        rcases hc with rfl | rfl
        · decide
        · exact hw _ hx
      · obtain ⟨x, hx, hc⟩ := List.mem_flatMap.mp hc
        split at hc
        · simp only [List.mem_cons, List.not_mem_nil, or_false] at hc
          rcases hc with rfl | rfl <;> decide
        · rw [List.mem_singleton.mp hc]; exact hw _ hx
  · rw [List.mem_singleton.mp hc]
    unfold wordD
    split
    · decide
    · split
      · decide
      · split <;> decide
theorem text_ok (ds : List Int) : StrsOk ((textOf ds).map one) := by
  intro x hx
  obtain ⟨c, hc, rfl⟩ := List.mem_map.mp hx
  unfold textOf at hc
  obtain ⟨l, hl, hc⟩ := List.mem_flatten.mp hc
  obtain ⟨n, _, rfl⟩ := List.mem_map.mp hl
  have := written_ok n c hc
  show (#[c].all (· < 0x110000)) = true
  simpa using this
theorem plain_ok (n : Int) : PyData.strOk (plainOf n) = true := by
  unfold plainOf
  split
  · decide +kernel
  · split <;> decide +kernel
theorem plains_ok (ds : List Int) : StrsOk (ds.map plainOf) := by
  intro x hx
  obtain ⟨n, _, rfl⟩ := List.mem_map.mp hx
  exact plain_ok n
end
section
set_option maxRecDepth 100000 in
set_option maxHeartbeats 8000000 in
theorem law_body {w : World} {mean : ExcName → Option Value} {mg mb : PySem.Str → Option Value} {g : Heap} {L fa sl : Addr} {cd : Value} {sv : List Value} {ns : List Int} {h₁ : Heap} {s : Shared} {tk : Nat} {c1 c2 : Obj}
    (B : Below callerA g [] g) (K : (K01 w.params).In g) (T : Top topProg looseQ mean mg mb g) (hl : g.IsList sl sv.toArray) (hI : IntsAre sv ns) (hlen : ns.length ≤ 63) (hc1 : c1.data = .cell none) (hc2 : c2.data = .cell none)
    (F : Fr g L h₁ (bindL (envOfC (PySem.Str.ofString "law") sc23 L fa cd).kindOf [(PySem.Str.ofString "script", .ref sl)] fun _ => none)) (N : News g L h₁ [(L + 1 + 1, c2), (L + 1, c1), (156, tabObj #[]), (187, tabObj #[])]) :
    mark PySem.Challenge.rw_us0019_01 K01 (wpAny (model P1 w) (callerA.deeper (envOfC (PySem.Str.ofString "law") sc23 L fa cd)) (execs bd23 (envOfC (PySem.Str.ofString "law") sc23 L fa cd)) (LawEnd g L s) noE { s with heap := h₁, toks := tk }) := by
  have hL : @LT.lt Nat _ 191 L := by
    refine pack fun G9 hG9 => ?_
    obtain ⟨o, _, _, _, _, _, _, _, _, ho, _⟩ := codeHd191 K
    refine hG9 ?_
    clear hG9
    exact Nat.lt_of_lt_of_le (Heap.lt_size ho) F.above
  show wpAny (model P1 w) (lawA L fa cd) (execs bd23 (lawV L fa cd)) (LawEnd g L s) noE { s with heap := h₁, toks := tk }
  have hds := drawsOf_len ns
  refine execs_midK (g := g) (L := L) (s := { s with heap := h₁, toks := tk }) 2 _ (lb1 B K T hl hI hlen F N) ?_
  rintro h tk m nl ⟨htk, J⟩ F N
  refine execs_mid (g := g) (L := L) (s := { s with heap := h, toks := tk }) 2 (JB w (drawsOf ns) (textOf (drawsOf ns)) sl L c1 c2) (lb2 htk hL B K T hds J F N) ?_
  clear J F N
  intro h tk m nl J F N
  simp only [List.drop_drop, Nat.reduceAdd]
  have htl := textOf_len (drawsOf ns)
  have hws : ((drawsOf ns).map plainOf).length ≤ 15 := by rw [List.length_map]; exact hds
  refine execs_mid (g := g) (L := L) (s := { s with heap := h, toks := tk }) 1 _ (lb3a (toks := (drawsOf ns).map tokOf) hL B K T (toks_text _) ?sig ?tl ?lt ?prep (by omega) (text_ok _) J F N) ?_
  case sig => intro tok ht; obtain ⟨n, _, rfl⟩ := List.mem_map.mp ht; exact (tok_of n).2.1
  case tl => rw [List.length_map]; exact hds
  case lt => intro tok ht; obtain ⟨n, _, rfl⟩ := List.mem_map.mp ht; have := (tok_of n).2.2.2; omega
  case prep => rw [List.map_map]; exact List.map_congr_left fun n _ => (tok_of n).1
  clear J F N
  intro h tk m nl J F N
  simp only [List.drop_drop, Nat.reduceAdd]
  refine execs_mid (g := g) (L := L) (s := { s with heap := h, toks := tk }) 1 _ (lb3b hL B K T hc1 hws J F N) ?_
  clear J F N
  intro h tk m nl hPk1 F N
  refine pack fun G9 hG9 => ?_
  obtain ⟨ps, hps, J⟩ := hPk1
  refine hG9 ?_
  clear hG9
  simp only [List.drop_drop, Nat.reduceAdd]
  refine execs_mid (g := g) (L := L) (s := { s with heap := h, toks := tk }) 1 _ (lb4 hL B K T hl hI hlen hc2 J F N) ?_
  clear J F N
  intro h tk m nl hPk2 F N
  refine pack fun G9 hG9 => ?_
  obtain ⟨base0, hb0, hb1, J⟩ := hPk2
  refine hG9 ?_
  clear hG9
  simp only [List.drop_drop, Nat.reduceAdd]
  refine execs_mid (g := g) (L := L) (s := { s with heap := h, toks := tk }) 1 _ (lb5 hL B K T hws hb1 hps J F N) ?_
  clear J F N
  intro h tk m nl J F N
  simp only [List.drop_drop, Nat.reduceAdd]
  refine execs_mid (g := g) (L := L) (s := { s with heap := h, toks := tk }) 1 _ (lb6 hL B K T hws hb0 hb1 hps J F N) ?_
  clear J F N
  intro h tk m nl J F N
  simp only [List.drop_drop, Nat.reduceAdd]
  refine execs_mid (g := g) (L := L) (s := { s with heap := h, toks := tk }) 1 _ (lb7 hL B K T hws hps J F N) ?_
  clear J F N
  intro h tk m nl J F N
  simp only [List.drop_drop, Nat.reduceAdd]
  exact lb8 (s := s) hL B K T hws (plains_ok _) (by omega) hps J F N
end
section
set_option maxRecDepth 100000 in
set_option maxHeartbeats 8000000 in
theorem law_holds : PySem.Challenge.rw_us0019_01.Holds := by
  w_on
  refine holds_law law_said fun said => ?_
  refine Mine.hd01 (by rfl) (by rfl) (by rfl) (by assumption) ?hw ?walk
  case hw => w_witness2
  case walk => w_strict (
    k_go0
    (all_goals try k_fold)
    rename IntsAre _ _ => hI
    rename List Int => ns
    rename CellsAre _ _ _ => hY
    rename Frag.In _ _ => hK
    rename Top topProg _ _ _ _ _ => hT
    rename Below _ _ _ _ => hB
    rename Fr _ _ _ _ => hF
    rename News _ _ _ _ => hN
    rename Heap.IsList (ghostOf _ _) _ _ => hL
    refine wpAny_mono (law_body hB hK hT hL hI (by omega) ?hc1 ?hc2 hF hN) ?_ (fun _ _ e => e.elim)
    case hc1 => assumption
    case hc2 => assumption
    intro fl s' hPk1
    refine pack fun G9 hG9 => ?_
    obtain ⟨rfl, h', tk', m', t1, t2, nl, rfl, F', N'⟩ := hPk1
    refine hG9 ?_
    clear hG9
    have hgr : GrownAll [(160, 156), (191, 187)] h' := by
      refine ⟨GrownAt.of N' (.head _), GrownAt.of N' (.tail _ (.head _)), ?_⟩
      exact True.intro
    refine ⟨?_, hgr⟩
    clear hgr
    dsimp only
    k_steps)
end
end Mine
theorem PySem.Challenge.cw_us0019_01_holds : PySem.Challenge.rw_us0019_01.Holds :=
  Mine.law_holds
