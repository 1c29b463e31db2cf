import PyProof.Rows.All
import Wide.All
import OpenK.AllK
import Wide.FinOn
import PySem.Challenge.RW_oy0153_01
set_option Elab.async false
set_option linter.unusedVariables false
section
open PySem PySem.W PyProof.Rows PySem.Calls
namespace Mine
noncomputable abbrev prg : Program := PySem.Challenge.pw_oy0153_01
noncomputable abbrev ANN : Option Value := some (.ref 6)
/-- the machine goes from one place to another, exactly -/
noncomputable def Reach (w : World) (B : Nat) (s : Shared) (t : Thread) (s' : Shared) (t' : Thread) : Prop := ∃ n, n ≤ B ∧ segGo treeTable prg w 11 ANN 1 n s t = some (s', t')
theorem go_add {w : World} : ∀ {n m : Nat} {s s' s'' : Shared} {t t' t'' : Thread}, segGo treeTable prg w 11 ANN 1 n s t = some (s', t') → segGo treeTable prg w 11 ANN 1 m s' t' = some (s'', t'') → segGo treeTable prg w 11 ANN 1 (n + m) s t = some (s'', t'')
  | 0, m, s, s', s'', t, t', t'', h, k => by
    obtain ⟨rfl, rfl⟩ : s = s' ∧ t = t' := by simpa [segGo] using h
    rw [Nat.zero_add]; exact k
  | n + 1, m, s, s', s'', t, t', t'', h, k => by
    rw [show n + 1 + m = n + m + 1 by omega]
    unfold segGo at h ⊢
    cases he : endAt 1 t with
    | some f => rw [he] at h; cases h
    | none =>
      rw [he] at h
      cases hk : stepOk 11 ANN t with
      | false => rw [hk] at h; cases h
      | true =>
        rw [hk] at h
        cases hs : step (denote treeTable) prg w s t with
        | halt o s₂ => rw [hs] at h; cases h
        | go s₂ t₂ => rw [hs] at h; exact go_add h k
theorem Reach.refl {w : World} {s : Shared} {t : Thread} : Reach w 0 s t s t := ⟨0, Nat.le_refl _, rfl⟩
theorem Reach.trans {w : World} {A B : Nat} {s s' s'' : Shared} {t t' t'' : Thread} (h : Reach w A s t s' t') (k : Reach w B s' t' s'' t'') : Reach w (A + B) s t s'' t'' :=
  let ⟨n, hn, e⟩ := h; let ⟨m, hm, f⟩ := k; ⟨n + m, Nat.add_le_add hn hm, go_add e f⟩
theorem Reach.up {w : World} {A B : Nat} {s s' : Shared} {t t' : Thread} (h : Reach w A s t s' t') (k : A ≤ B) : Reach w B s t s' t' := let ⟨n, hn, e⟩ := h; ⟨n, Nat.le_trans hn k, e⟩
theorem Reach.one {w : World} {s s' : Shared} {t t' : Thread} (he : endAt 1 t = none) (hk : stepOk 11 ANN t = true) (hs : step (denote treeTable) prg w s t = .go s' t') : Reach w 1 s t s' t' :=
  ⟨1, Nat.le_refl _, by unfold segGo; rw [he]; dsimp only; rw [hk]; dsimp only; rw [hs]; rfl⟩
theorem Reach.end {w : World} {B N : Nat} {s s' : Shared} {t t' : Thread} {r : Flow × Shared × Code × Pos} (h : Reach w B s t s' t') (k : segRun treeTable prg w 11 ANN 1 N s' t' = some r) : ∃ n, n ≤ B + N ∧ segRun treeTable prg w 11 ANN 1 n s t = some r :=
  let ⟨n, hn, e⟩ := h; ⟨n + N, Nat.add_le_add_right hn _, seg_go e k⟩

/-- m runs to a, whatever stands around -/
noncomputable def Runs (w : World) {α : Type} (B : Nat) (m : Sem α) (s : Shared) (a : α) (s' : Shared) : Prop :=
  ∀ (K : α → Sem Fin) (H : Value → Sem Fin) (gd : Bool → Bool) (lv : List Value → List Value) (c : Code) (p : Pos) (f g : Frame) (st : List Frame), Reach w B s ⟨m.wrap K H gd lv, c, p, f :: g :: st⟩ s' ⟨K a, c, p, f :: g :: st⟩

section
variable {w : World} {α β : Type}
theorem Runs.pure {a : α} {s : Shared} : Runs w 0 (Pure.pure a : Sem α) s a s := fun _ _ _ _ _ _ _ _ _ => Reach.refl
theorem Runs.bind {A B : Nat} {m : Sem α} {f : α → Sem β} {s s₁ s₂ : Shared} {a : α} {b : β} (h : Runs w A m s a s₁) (k : Runs w B (f a) s₁ b s₂) : Runs w (A + B) (m >>= f) s b s₂ := fun K H gd lv c p f' g' st => by
  rw [Sem.bind_eq_wrap', Sem.wrap_wrap]
  exact (h _ _ _ _ c p f' g' st).trans (k K H gd lv c p f' g' st)
theorem Runs.keep {B : Nat} {m : Sem α} {vs : List Value} {s s' : Shared} {a : α} (h : Runs w B m s a s') : Runs w B (m.keep vs) s a s' := fun K H gd lv c p f' g' st => by
  rw [Sem.keep_eq_wrap, Sem.wrap_wrap]
  exact h _ _ _ _ c p f' g' st
theorem Runs.holding {B : Nat} {m : Sem α} {vs : List Value} {s s' : Shared} {a : α} (h : Runs w B m s a s') : Runs w B (holding vs m) s a s' := by
  unfold PySem.holding
  split
  · exact h
  · exact h.keep
theorem Runs.up {A B : Nat} {m : Sem α} {s s' : Shared} {a : α} (h : Runs w A m s a s') (k : A ≤ B) : Runs w B m s a s' := fun K H gd lv c p f' g' st => (h K H gd lv c p f' g' st).up k
theorem Runs.to {B : Nat} {m m' : Sem α} {s s' : Shared} {a : α} (h : Runs w B m s a s') (e : m' = m) : Runs w B m' s a s' := e ▸ h
theorem noEnd {cur : Sem Fin} {c : Code} {p : Pos} {st : List Frame} (h : ∀ f, cur ≠ .pure (.done f)) : endAt 1 ⟨cur, c, p, st⟩ = none := by
  unfold endAt
  split
  · rename_i f _ e; exact absurd e (h f)
  · rfl
theorem Runs.load {a : Addr} {o : Obj} {s : Shared} (h : s.heap.get? a = some o) : Runs w 1 (PySem.load a) s o s := fun K H gd lv c p f' g' st =>
  Reach.one (noEnd fun f e => nomatch e) rfl (by
    obtain ⟨hp, g, d, k, os⟩ := s
    show step _ _ _ _ ⟨.load a none _, c, p, f' :: g' :: st⟩ = _
    simp only [step]
    rw [show hp.get? a = some o from h]
    rfl)
theorem Runs.update {a : Addr} {o : Obj} {f : Obj → Obj} {s : Shared} (h : s.heap.get? a = some o) (ha : Nat.ble 11 a = true) : Runs w 1 (PySem.update a f) s () { s with heap := s.heap.update a f } := fun K H gd lv c p f' g' st =>
  Reach.one (noEnd fun f e => nomatch e) (by
    show ((true && (Nat.ble 11 a || a == mainNs || a == cStatics || ANN == some (.ref a))) = true)
    rw [ha]; rfl) (by
    obtain ⟨hp, g, d, k, os⟩ := s
    show step _ _ _ _ ⟨.update a none f _, c, p, f' :: g' :: st⟩ = _
    simp only [step]
    rw [show hp.get? a = some o from h]
    rfl)
theorem Runs.rule {tag : String} {s : Shared} : Runs w 1 (PySem.rule tag) s () s := fun K H gd lv c p f' g' st => Reach.one (noEnd fun f e => nomatch e) rfl (by obtain ⟨hp, g, d, k, os⟩ := s; rfl)
theorem Runs.ask {s : Shared} : Runs w 1 PySem.ask s ⟨prg, w.params⟩ s := fun K H gd lv c p f' g' st => Reach.one (noEnd fun f e => nomatch e) rfl (by obtain ⟨hp, g, d, k, os⟩ := s; rfl)
theorem Runs.point {s : Shared} : Runs w 1 PySem.point s () s := fun K H gd lv c p f' g' st => Reach.one (noEnd fun f e => nomatch e) rfl (by obtain ⟨hp, g, d, k, os⟩ := s; rfl)
end

/-- a frozenset's object -/
noncomputable def fo (d : Data) : Obj := ⟨.type "frozenset", none, d, #[]⟩
theorem put_fo {es es' : Array (Int × Value)} {ep : Nat} {t t' : SetTable} : Obj.putSet es' t' (fo (.set es ep t)) = fo (.set es' (ep + 1) t') := rfl
theorem upd_get {h : Heap} {a : Addr} {d d' : Data} {f : Obj → Obj} (e : h.get? a = some (fo d)) (hf : f (fo d) = fo d') (hd : (fo d').isFreed = false) : (h.update a f).get? a = some (fo d') := by
  rw [← hf] at hd ⊢
  exact Heap.get?_update_self f e hd
theorem upd_congr {h : Heap} {a : Addr} {o : Obj} {f g : Obj → Obj} (e : h.get? a = some o) (hf : f o = g o) : h.update a f = h.update a g := by
  have ho : h.objs[a]? = some o := (Heap.get?_some_iff.mp e).1
  have : h.objs.modify a f = h.objs.modify a g := by
    apply Array.ext_getElem?
    intro i
    rw [Array.getElem?_modify, Array.getElem?_modify]
    by_cases hi : a = i
    · subst hi; simp [ho, hf]
    · simp [hi]
  show Heap.mk _ _ = Heap.mk _ _
  rw [this]
theorem upd_upd {h : Heap} {a : Addr} {f g : Obj → Obj} : (h.update a f).update a g = h.update a (fun o => g (f o)) := by
  have : (h.objs.modify a f).modify a g = h.objs.modify a (fun o => g (f o)) := by
    apply Array.ext_getElem?
    intro i
    rw [Array.getElem?_modify, Array.getElem?_modify, Array.getElem?_modify]
    by_cases hi : a = i
    · subst hi; cases h.objs[a]? <;> simp
    · simp [hi]
  show Heap.mk _ _ = Heap.mk _ _
  exact congrArg (Heap.mk · h.life) this

section
variable {w : World} {s : Shared} {a : Addr} {es : Array (Int × Value)} {ep : Nat} {t : SetTable}
theorem runs_state (ho : s.heap.get? a = some (fo (.set es ep t))) (hf : t.fits es.size = true) : Runs w 1 (setState a) s (es, ep, t) s := by
  unfold setState
  refine (Runs.bind (B := 0) (Runs.load ho) ?_)
  dsimp only [fo]
  have hc : (t.place.size != es.size || decide (t.fill > t.mask)) = false := by
    simp only [SetTable.fits, Bool.and_eq_true, beq_iff_eq, decide_eq_true_eq] at hf
    simp [hf.1, Nat.not_lt.mpr hf.2]
  rw [hc]
  simp only [Bool.false_eq_true, ↓reduceIte]
  exact Runs.pure
theorem runs_entries (ho : s.heap.get? a = some (fo (.set es ep t))) (hf : t.fits es.size = true) : Runs w 1 (setEntries a) s es s := by
  unfold setEntries
  exact Runs.bind (B := 0) (runs_state ho hf) Runs.pure
theorem runs_epoch (ho : s.heap.get? a = some (fo (.set es ep t))) (hf : t.fits es.size = true) : Runs w 1 (setEpoch a) s ep s := by
  unfold setEpoch
  exact Runs.bind (B := 0) (runs_state ho hf) Runs.pure
theorem runs_store {es' : Array (Int × Value)} {t' : SetTable} (ho : s.heap.get? a = some (fo (.set es ep t))) (ha : Nat.ble 11 a = true) (hz : es'.size ≤ sizeLine) :
    Runs w 2 (storeSet a es' t') s () { s with heap := s.heap.update a (fun _ => fo (.set es' (ep + 1) t')) } := by
  unfold storeSet
  refine (Runs.bind (A := 1) (B := 1) (Runs.load ho) ?_)
  dsimp only [fo]
  rw [if_neg (Nat.not_lt.mpr hz)]
  rw [← upd_congr (f := Obj.putSet es' t') ho put_fo]
  exact Runs.bind (A := 0) (B := 1) Runs.pure (Runs.update ho ha)
end
end Mine
end
section
open PySem PySem.W PyProof.Rows PySem.Calls
namespace Mine

noncomputable def off (t : SetTable) : SetTable := ⟨t.mask, t.place, t.dummies, t.finger, t.led, t.moves, false⟩
noncomputable def addFin (t : SetTable) (es : Array (Int × Value)) (h : Int) (x : Value) : Array (Int × Value) × SetTable × Nat :=
  if (!(layNew t es h x).2.2.1 && (off (layNew t es h x).2.1).tooFull) = true then
    ((relayAll (off (layNew t es h x).2.1) (layNew t es h x).1 (SetTable.grown (layNew t es h x).1.size)).1, (relayAll (off (layNew t es h x).2.1) (layNew t es h x).1 (SetTable.grown (layNew t es h x).1.size)).2.1, 2)
  else ((layNew t es h x).1, (off (layNew t es h x).2.1), 1)
noncomputable def addData (h : Int) (x : Value) : Data → Data
  | .set es ep t => .set (addFin t es h x).1 (ep + (addFin t es h x).2.2) (addFin t es h x).2.1
  | d => d

section
variable {w : World} {s : Shared} {a : Addr} {es : Array (Int × Value)} {ep : Nat} {t : SetTable} {z : Str} {k : Tok} {h : Int}
theorem scan_none (hel : ∀ e ∈ es.toList, ∃ y j, e.2 = Value.str y j ∧ y ≠ z) : es.findIdx? (·.2.isStr z) = none := by
  have e : es.findIdx? (fun e => e.2.isStr z) = es.toList.findIdx? (fun e => e.2.isStr z) := by cases es; simp
  rw [e, List.findIdx?_eq_none_iff]
  intro e he
  obtain ⟨y, j, hy, hn⟩ := hel e he
  rw [hy]
  show (y == z) = false
  exact beq_eq_false_iff_ne.mpr hn
theorem all_strs (hel : ∀ e ∈ es.toList, ∃ y j, e.2 = Value.str y j) : es.all (fun e => isExactStrKey e.2) = true := by
  rw [← Array.all_toList, List.all_eq_true]
  intro e he
  obtain ⟨y, j, hy⟩ := hel e he
  rw [hy]; rfl
theorem all_scan (hel : ∀ e ∈ es.toList, ∃ y j, e.2 = Value.str y j) : es.all (fun e => e.2.scannable) = true := by
  rw [← Array.all_toList, List.all_eq_true]
  intro e he
  obtain ⟨y, j, hy⟩ := hel e he
  rw [hy]; rfl
theorem by_scan {z : Str} {k : Tok} (hel : ∀ e ∈ es.toList, ∃ y j, e.2 = Value.str y j) (hsz : es.size < scanBound) : byScan (.str z k) es = true := by
  simp only [byScan, Value.scannable, Bool.true_and, Bool.and_eq_true, decide_eq_true_eq]
  exact ⟨hsz, all_scan hel⟩
theorem scan_absent {adding : Bool} (hel : ∀ e ∈ es.toList, ∃ y j, e.2 = Value.str y j ∧ y ≠ z) : Runs w 0 (setScan a (.str z k) h adding es) s .absent s := by
  unfold setScan
  dsimp only
  rw [if_pos (all_strs fun e he => let ⟨y, j, q, _⟩ := hel e he; ⟨y, j, q⟩)]
  unfold setScanStrs
  rw [scan_none hel]
  exact Runs.pure
theorem hbv {w : World} {s : Shared} {n : Nat} : Runs w 0 (hashByValue n (.str z k)) s false s := by
  rw [hashByValue_scannable n rfl]
  exact Runs.pure

/-- what stands behind the scan -/
theorem runs_addTail {g : Bool → Sem Unit} (hg : ∀ (b : Bool) (s₁ : Shared), Runs w 1 (g b) s₁ () s₁) {es1 : Array (Int × Value)} {t2 : SetTable} {wd : Bool}
    (ho : s.heap.get? a = some (fo (.set es ep t))) (ha : Nat.ble 11 a = true) (hb : es1.size < scanBound) :
    Runs w 5 (do
        storeSet a es1 t2
        if (!wd && t2.tooFull) = true then do
            g (relayAll t2 es1 (SetTable.grown es1.size)).2.2
            storeSet a (relayAll t2 es1 (SetTable.grown es1.size)).1 (relayAll t2 es1 (SetTable.grown es1.size)).2.1
            pure (some true)
          else pure (some true)) s (some true)
      { s with heap := s.heap.update a (fun _ => fo (if (!wd && t2.tooFull) = true then .set (relayAll t2 es1 (SetTable.grown es1.size)).1 (ep + 2) (relayAll t2 es1 (SetTable.grown es1.size)).2.1 else .set es1 (ep + 1) t2)) } := by
  refine Runs.bind (A := 2) (B := 3) (runs_store ho ha (fits_of_scanBound hb)) ?_
  split
  · have hp := relayAll_perm t2 es1 (SetTable.grown es1.size)
    generalize hRl : relayAll t2 es1 (SetTable.grown es1.size) = Rl at hp ⊢
    obtain ⟨es2, t3, gave2⟩ := Rl
    dsimp only at hp ⊢
    have hsz : es2.size = es1.size := by rw [← Array.length_toList, hp.length_eq, Array.length_toList]
    refine Runs.bind (A := 1) (B := 2) (hg _ _) (Runs.bind (A := 2) (B := 0) (a := ()) (s₁ := { s with heap := s.heap.update a (fun _ => fo (.set es2 (ep + 2) t3)) }) ?_ Runs.pure)
    have := runs_store (w := w) (s := { s with heap := s.heap.update a (fun _ => fo (.set es1 (ep + 1) t2)) }) (a := a) (es := es1) (ep := ep + 1) (t := t2) (es' := es2) (t' := t3) (upd_get ho rfl rfl) ha (fits_of_scanBound (by omega))
    rw [upd_upd] at this
    exact this
  · exact Runs.up Runs.pure (by decide)

theorem runs_add (ho : s.heap.get? a = some (fo (.set es ep t))) (hf : t.fits es.size = true) (ha : Nat.ble 11 a = true) (hel : ∀ e ∈ es.toList, ∃ y j, e.2 = Value.str y j ∧ y ≠ z) (hsz : es.size + 1 < scanBound) :
    Runs w 12 (setAddHashedIn a (.str z k) h 100000) s true { s with heap := s.heap.update a (fun _ => fo (addData h (.str z k) (.set es ep t))) } := by
  have hel' : ∀ e ∈ es.toList, ∃ y j, e.2 = Value.str y j := fun e he => let ⟨y, j, q, _⟩ := hel e he; ⟨y, j, q⟩
  unfold setAddHashedIn
  refine Runs.bind (A := 1) (B := 11) (runs_state ho hf) ?_
  dsimp only
  rw [by_scan hel' (by omega)]
  simp only [↓reduceIte]
  unfold setAddByScan
  refine Runs.bind (A := 11) (B := 0) (a := some true) ?_ Runs.pure
  refine Runs.bind (A := 1) (B := 10) Runs.rule ?_
  refine Runs.bind (A := 0) (B := 10) (scan_absent hel) ?_
  dsimp only
  have hperm := layNew_perm t es h (.str z k)
  have e : addData h (.str z k) (.set es ep t) = (if (!(layNew t es h (.str z k)).2.2.1 && (off (layNew t es h (.str z k)).2.1).tooFull) = true then
      .set (relayAll (off (layNew t es h (.str z k)).2.1) (layNew t es h (.str z k)).1 (SetTable.grown (layNew t es h (.str z k)).1.size)).1 (ep + 2) (relayAll (off (layNew t es h (.str z k)).2.1) (layNew t es h (.str z k)).1 (SetTable.grown (layNew t es h (.str z k)).1.size)).2.1
      else .set (layNew t es h (.str z k)).1 (ep + 1) (off (layNew t es h (.str z k)).2.1)) := by
    unfold addData
    dsimp only
    unfold addFin
    by_cases hc : (!(layNew t es h (.str z k)).2.2.1 && (off (layNew t es h (.str z k)).2.1).tooFull) = true
    · rw [if_pos hc, if_pos hc]
    · rw [if_neg hc, if_neg hc]
  rw [e]
  generalize hL : layNew t es h (.str z k) = L at hperm ⊢
  obtain ⟨es1, t1, wd, gave⟩ := L
  dsimp only at hperm ⊢
  rw [Array.toList_push] at hperm
  have hb1 : es1.size < scanBound := by rw [← Array.length_toList, hperm.length_eq, List.length_append, Array.length_toList]; simpa using hsz
  have hgw : ∀ (b : Bool) (s₁ : Shared), Runs w 1 (match b with | true => rule "set.scan.the-table-gave-way" | false => pure ()) s₁ () s₁ := fun b s₁ => by
    cases b
    · exact Runs.up Runs.pure (by decide)
    · exact Runs.rule
  refine Runs.bind (A := 1) (B := 9) (a := ()) (s₁ := s) ?_ ?_
  · cases gave
    · exact Runs.up Runs.pure (by decide)
    · exact Runs.rule
  split
  · refine Runs.bind (A := 0) (B := 9) hbv ?_
    simp only [Bool.false_eq_true, ↓reduceIte]
    refine Runs.up (A := 5) ?_ (by decide)
    refine runs_addTail ?_ ho ha hb1
    intro b s₁
    cases b
    · exact Runs.up Runs.pure (by decide)
    · exact Runs.rule
  · rename_i hp
    refine Runs.bind (A := 0) (B := 9) Runs.pure ?_
    simp only [↓reduceIte]
    have et : off t1 = t1 := by
      obtain ⟨m, pl, du, fi, le, mo, pp⟩ := t1
      have : pp = false := by simpa using hp
      subst this; rfl
    rw [et]
    refine Runs.up (A := 5) ?_ (by decide)
    refine runs_addTail ?_ ho ha hb1
    intro b s₁
    cases b
    · exact Runs.up Runs.pure (by decide)
    · exact Runs.rule
end
end Mine
end
section
open PySem PySem.W PyProof.Rows PySem.Calls
namespace Mine
section
variable {w : World} {s s₁ : Shared} {r o : Addr} {er eo : Array (Int × Value)} {epr epo : Nat} {tr to : SetTable}

theorem runs_roomNone {more : Nat} (hr : s.heap.get? r = some (fo (.set er epr tr))) (hf : tr.fits er.size = true) (hn : tr.roomFor more = none) : Runs w 1 (setRoomFor r more) s () s := by
  unfold setRoomFor
  refine Runs.bind (A := 1) (B := 0) (runs_state hr hf) ?_
  dsimp only
  rw [hn]
  exact Runs.pure
theorem runs_roomNew {more wanted : Nat} {led : Bool} {t' : SetTable} (hr : s.heap.get? r = some (fo (.set #[] 0 (.fresh 0 0 led)))) (ha : Nat.ble 11 r = true) (hn : (SetTable.fresh 0 0 led).roomFor more = some wanted)
    (hz : ¬ SetTable.sizeAbove wanted > sizeLine) (ht : (SetTable.fresh 0 0 led).relaid #[] wanted = some (t', #[])) : Runs w 4 (setRoomFor r more) s () { s with heap := s.heap.update r (fun _ => fo (.set #[] 1 t')) } := by
  have hf : (SetTable.fresh 0 0 led).fits (#[] : Array (Int × Value)).size = true := rfl
  unfold setRoomFor
  refine Runs.bind (A := 1) (B := 3) (runs_state hr hf) ?_
  dsimp only
  rw [hn]
  dsimp only
  unfold setRelay
  refine Runs.bind (A := 1) (B := 2) (runs_state hr hf) ?_
  dsimp only
  rw [if_neg hz]
  have e : (#[] : Array (Int × Value)).map (·.1) = #[] := by simp
  rw [e, ht]
  refine Runs.bind (A := 0) (B := 2) (a := (#[], t')) Runs.pure ?_
  dsimp only
  exact runs_store hr ha (by decide)

noncomputable def mergeT (ts to : SetTable) : SetTable := { to with finger := ts.finger, led := ts.led && to.led, moves := ts.moves, plain := ts.plain && to.plain }
theorem runs_mergeSlot {B : Nat} {each : Sem Unit} (hne : (r == o) = false) (ha : Nat.ble 11 r = true) (ho : s.heap.get? o = some (fo (.set eo epo to))) (hfo : to.fits eo.size = true) (he : eo.isEmpty = false) (hz : eo.size ≤ sizeLine)
    (hroom : Runs w B (setRoomFor r eo.size) s () s₁) (hr : s₁.heap.get? r = some (fo (.set er epr tr))) (hfr : tr.fits er.size = true) (hroad : tr.road to = .slotForSlot) :
    Runs w (B + 4) (setMerge r o each) s () { s₁ with heap := s₁.heap.update r (fun _ => fo (.set eo (epr + 1) (mergeT tr to))) } := by
  rw [show B + 4 = 1 + (B + 3) by omega]
  unfold setMerge
  rw [hne]
  simp only [Bool.false_eq_true, ↓reduceIte]
  refine Runs.bind (A := 1) (B := B + 3) (runs_state ho hfo) ?_
  dsimp only
  rw [he]
  simp only [Bool.false_eq_true, ↓reduceIte]
  refine Runs.bind (A := B) (B := 3) hroom ?_
  refine Runs.bind (A := 1) (B := 2) (runs_state hr hfr) ?_
  dsimp only
  rw [hroad]
  dsimp only
  exact runs_store hr ha hz

theorem pick1 {α : Type} (next : Nat → Nat) (x : α) : pickOrder next #[x] = #[x] := by
  have : next 0 % 1 = 0 := Nat.mod_one _
  unfold pickOrder
  show pickOrder.go next 1 0 [x] #[] = #[x]
  unfold pickOrder.go
  simp [this, pickOrder.go]
theorem runs_byText : Runs w 1 setsByText s (w.params.followText "set-order") s := by
  unfold setsByText
  exact Runs.bind (A := 1) (B := 0) Runs.ask Runs.pure
theorem runs_walk1 {e : Int × Value} (ho : s.heap.get? o = some (fo (.set #[e] epo to))) (hfo : to.fits 1 = true) : Runs w 3 (setWalk o) s #[e] s := by
  unfold setWalk
  refine Runs.bind (A := 1) (B := 2) (runs_state ho hfo) ?_
  dsimp only
  refine Runs.bind (A := 1) (B := 1) runs_byText ?_
  split
  · refine Runs.bind (A := 1) (B := 0) Runs.ask ?_
    rw [pick1]
    exact Runs.pure
  · have hd : ∀ (b : Bool), (!b && decide ((#[e] : Array (Int × Value)).size > 1)) = false := fun b => by cases b <;> rfl
    refine Runs.up (A := 0) ?_ (by decide)
    show Runs w 0 (if (!to.plain && decide ((#[e] : Array (Int × Value)).size > 1)) = true then _ else _) s _ s
    rw [hd, if_neg (by decide)]
    show Runs w 0 ((if (!to.led && decide ((#[e] : Array (Int × Value)).size > 1)) = true then _ else _) >>= _) s _ s
    rw [hd, if_neg (by decide)]
    exact Runs.bind (A := 0) (B := 0) Runs.pure Runs.pure
theorem runs_unseen1 {e : Int × Value} {l : List Addr} {f : Option Addr} (ho : s.heap.get? o = some (fo (.set #[e] epo to))) (hfo : to.fits 1 = true) : Runs w 5 (setWalkUnseen o l f) s #[e] s := by
  unfold setWalkUnseen
  refine Runs.bind (A := 1) (B := 4) (runs_state ho hfo) ?_
  dsimp only
  refine Runs.bind (A := 1) (B := 3) runs_byText ?_
  have hd : ((w.params.followText "set-order" || to.led && to.plain || decide ((#[e] : Array (Int × Value)).size ≤ 1)) = true) := by simp
  rw [if_pos hd]
  exact runs_walk1 ho hfo
end
end Mine
end
section
open PySem PySem.W PyProof.Rows PySem.Calls
set_option maxRecDepth 100000
namespace Mine
theorem eq_tab0 (b : Bool) (hb : b = true ∨ b = false) (w : World) (s : Shared) (K : Bool → Sem Fin) (H : Value → Sem Fin) (gd : Bool → Bool) (lv : List Value → List Value) (c : Code) (p : Pos) (f g : Frame) (st : List Frame) :
    segGo treeTable prg (w.withFollow "special-get-raises" b) 11 ANN 1 4 s ⟨(eqBool (.str ⟨#[9]⟩ 238) (.str ⟨#[9]⟩ 334)).wrap K H gd lv, c, p, f :: g :: st⟩ = some (s, ⟨K true, c, p, f :: g :: st⟩) := by
  rcases hb with rfl | rfl
  · kernel_rfl
  · kernel_rfl
section
variable {w : World} {s s₁ : Shared} {r o : Addr} {er eo : Array (Int × Value)} {epr epo : Nat} {tr to : SetTable}
theorem eq_tab : Runs w 4 (eqBool (.str ⟨#[9]⟩ 238) (.str ⟨#[9]⟩ 334)) s true s :=
  byRow2 "special-get-raises" (P := fun w => Runs w 4 (eqBool (.str ⟨#[9]⟩ 238) (.str ⟨#[9]⟩ 334)) s true s) (fun w K H gd lv c p f g st => ⟨4, Nat.le_refl _, eq_tab0 false (.inr rfl) w s K H gd lv c p f g st⟩) (fun w K H gd lv c p f g st => ⟨4, Nat.le_refl _, eq_tab0 true (.inl rfl) w s K H gd lv c p f g st⟩) w

theorem runs_addH {z : Str} {k : Tok} {h : Int} (hr : s.heap.get? r = some (fo (.set er epr tr))) (hf : tr.fits er.size = true) (ha : Nat.ble 11 r = true) (hel : ∀ e ∈ er.toList, ∃ y j, e.2 = Value.str y j ∧ y ≠ z) (hsz : er.size + 1 < scanBound) :
    Runs w 12 (setAddHashed r (.str z k) h) s true { s with heap := s.heap.update r (fun _ => fo (addData h (.str z k) (.set er epr tr))) } := by
  unfold setAddHashed
  exact Runs.holding (runs_add hr hf ha hel hsz)
theorem get_other {h : Heap} {a b : Addr} {f : Obj → Obj} {x : Option Obj} (e : h.get? b = x) (hab : (a == b) = false) : (h.update a f).get? b = x := by
  rw [Heap.get?_update_other h f (by intro z; subst z; simp at hab)]; exact e
theorem runs_mergeOne {z : Str} {k : Tok} {h : Int} {each : Sem Unit} (hne : (r == o) = false) (ha : Nat.ble 11 r = true) (ho : s.heap.get? o = some (fo (.set #[(h, .str z k)] epo to))) (hfo : to.fits 1 = true)
    (hr : s.heap.get? r = some (fo (.set er epr tr))) (hfr : tr.fits er.size = true) (hroom : tr.roomFor 1 = none) (hroad : tr.road to = .oneByOne)
    (hel : ∀ e ∈ er.toList, ∃ y j, e.2 = Value.str y j ∧ y ≠ z) (hsz : er.size + 1 < scanBound) (heach : ∀ s' : Shared, s'.heap.get? o = s.heap.get? o → Runs w 1 each s' () s') :
    Runs w 22 (setMerge r o each) s () { s with heap := s.heap.update r (fun _ => fo (addData h (.str z k) (.set er epr tr))) } := by
  unfold setMerge
  rw [hne]
  simp only [Bool.false_eq_true, ↓reduceIte]
  refine Runs.bind (A := 1) (B := 21) (runs_state ho hfo) ?_
  dsimp only
  rw [show (#[(h, Value.str z k)] : Array (Int × Value)).isEmpty = false from rfl]
  simp only [Bool.false_eq_true, ↓reduceIte]
  refine Runs.bind (A := 1) (B := 20) (runs_roomNone hr hfr hroom) ?_
  refine Runs.bind (A := 1) (B := 19) (runs_state hr hfr) ?_
  dsimp only
  rw [hroad]
  dsimp only
  refine Runs.bind (A := 5) (B := 14) (runs_unseen1 ho hfo) ?_
  rw [← Array.forIn_toList]
  simp only [List.forIn_cons, List.forIn_nil]
  refine Runs.bind (A := 14) (B := 0) (a := PUnit.unit) ?_ Runs.pure
  refine Runs.bind (A := 14) (B := 0) (a := .yield PUnit.unit) ?_ Runs.pure
  refine Runs.bind (A := 12) (B := 2) (Runs.holding (runs_addH hr hfr ha hel hsz)) ?_
  refine Runs.bind (A := 1) (B := 1) (heach _ ?_) ?_
  · exact get_other rfl hne
  refine Runs.bind (A := 1) (B := 0) (runs_state (es := #[(h, .str z k)]) (ep := epo) (t := to) (get_other ho hne) hfo) ?_
  dsimp only
  rw [show (epo != epo) = false by simp]
  simp only [Bool.false_eq_true, ↓reduceIte]
  exact Runs.pure

open Builtin.Frozenset in
theorem runs_unchanged {id : String} (ho : s.heap.get? o = some (fo (.set eo epo to))) (hfo : to.fits eo.size = true) : Runs w 1 (unchanged id o epo) s () s := by
  unfold unchanged
  refine Runs.bind (A := 1) (B := 0) (runs_epoch ho hfo) ?_
  rw [show (epo != epo) = false by simp]
  simp only [Bool.false_eq_true, ↓reduceIte]
  exact Runs.pure

theorem runs_loadPart {a : Addr} {o : Obj} {pt : Option Value} {s : Shared} (h : s.heap.get? a = some o) : Runs w 1 (PySem.loadPart a pt) s o s := fun K H gd lv c p f' g' st =>
  Reach.one (noEnd fun f e => nomatch e) rfl (by
    obtain ⟨hp, g, d, k, os⟩ := s
    show step _ _ _ _ ⟨.load a pt _, c, p, f' :: g' :: st⟩ = _
    simp only [step]
    rw [show hp.get? a = some o from h]
    rfl)
theorem runs_typeOf {d : Data} (ho : s.heap.get? o = some (fo d)) : Runs w 1 (typeOf (.ref o)) s (.type "frozenset") s := by
  show Runs w 1 (do return (← loadPart o (some headPart)).cls) s _ s
  exact Runs.bind (A := 1) (B := 0) (runs_loadPart ho) Runs.pure
theorem sub_set : isSubtype (.type "frozenset") (.type "set") = pure false := by rw [isSubtype_type]; kernel_rfl
theorem sub_fro : isSubtype (.type "frozenset") (.type "frozenset") = pure true := by rw [isSubtype_type]; kernel_rfl
theorem runs_isSet {d : Data} (ho : s.heap.get? o = some (fo d)) : Runs w 1 (isInstance (.ref o) (.type "set")) s false s := by
  unfold isInstance
  refine Runs.bind (A := 1) (B := 0) (runs_typeOf ho) ?_
  rw [sub_set]
  exact Runs.pure
theorem runs_isFro {d : Data} (ho : s.heap.get? o = some (fo d)) : Runs w 1 (isInstance (.ref o) (.type "frozenset")) s true s := by
  unfold isInstance
  refine Runs.bind (A := 1) (B := 0) (runs_typeOf ho) ?_
  rw [sub_fro]
  exact Runs.pure
open Builtin.Frozenset in
theorem runs_isAny {d : Data} (ho : s.heap.get? o = some (fo d)) : Runs w 2 (isAnySet (.ref o)) s true s := by
  unfold isAnySet
  refine Runs.bind (A := 1) (B := 1) (runs_isSet ho) ?_
  exact runs_isFro ho
open Builtin.Frozenset in
theorem runs_sizeOf (ho : s.heap.get? o = some (fo (.set eo epo to))) (hfo : to.fits eo.size = true) : Runs w 1 (Builtin.Frozenset.sizeOf o) s eo.size s := by
  unfold Builtin.Frozenset.sizeOf
  exact Runs.bind (A := 1) (B := 0) (runs_entries ho hfo) Runs.pure
open Builtin.Frozenset in
theorem runs_baseOf {d : Data} (ho : s.heap.get? o = some (fo d)) : Runs w 1 (baseOf o) s (.type "frozenset") s := by
  unfold baseOf
  exact Runs.bind (A := 1) (B := 0) (runs_isSet ho) Runs.pure
/-- a fresh one -/
noncomputable def freshD (P : Params) : Data := .set #[] 0 (.fresh 0 0 (!P.followText "set-order"))
theorem Runs.alloc {x : Obj} {s : Shared} : Runs w 1 (PySem.alloc x) s s.heap.objs.size { s with heap := s.heap.push x } := fun K H gd lv c p f' g' st => Reach.one (noEnd fun f e => nomatch e) rfl (by obtain ⟨hp, g, d, k, os⟩ := s; rfl)
theorem runs_newSet : Runs w 2 (newSet (.type "frozenset")) s (.ref s.heap.objs.size) { s with heap := s.heap.push (fo (freshD w.params)) } := by
  unfold newSet
  refine Runs.bind (A := 1) (B := 1) runs_byText ?_
  dsimp only
  simp only [newObj]
  exact Runs.bind (A := 1) (B := 0) Runs.alloc Runs.pure
end
end Mine
end
section
open PySem PySem.W PyProof.Rows PySem.Calls
set_option maxRecDepth 100000
namespace Mine
section
variable {w : World} {s s₁ : Shared} {r o : Addr} {er eo : Array (Int × Value)} {epr epo : Nat} {tr to : SetTable}
theorem push_upd {h : Heap} {x : Obj} {f : Obj → Obj} : (h.push x).update h.objs.size f = h.push (f x) := by
  have : ((h.objs.push x).modify h.objs.size f) = h.objs.push (f x) := by
    apply Array.ext_getElem?
    intro i
    rw [Array.getElem?_modify, Array.getElem?_push, Array.getElem?_push]
    by_cases hi : i = h.objs.size
    · subst hi; simp
    · simp [hi, Ne.symm hi]
  show Heap.mk _ _ = Heap.mk _ _
  exact congrArg (Heap.mk · h.life) this
noncomputable def relT (led : Bool) : SetTable := ⟨127, #[], #[], 0, led, 1, true⟩
theorem relaid127 (led : Bool) : (SetTable.fresh 0 0 led).relaid #[] 64 = some (relT led, #[]) := by
  cases led <;> kernel_rfl
theorem relaid127' (led : Bool) : (SetTable.fresh 0 0 led).relaid #[] 66 = some (relT led, #[]) := by
  cases led <;> kernel_rfl
noncomputable def ledOf (P : Params) : Bool := !P.followText "set-order"
noncomputable def copyT (big : Bool) (P : Params) : SetTable := if big then relT (ledOf P) else .fresh 0 0 (ledOf P)
noncomputable def copyD (big : Bool) (P : Params) (es : Array (Int × Value)) (t : SetTable) : Data := .set es (if big then 2 else 1) (mergeT (copyT big P) t)
/-- a set that copies well -/
structure Copies (big : Bool) (es : Array (Int × Value)) (t : SetTable) : Prop where
  fits : t.fits es.size = true
  mask : t.mask = if big then 127 else 7
  dum : t.dummies = #[]
  size : if big then es.size = 32 ∨ es.size = 33 else es.size = 2
open Builtin.Frozenset in
theorem runs_copy {big : Bool} (hs : Nat.ble 11 s.heap.objs.size = true) (ho : s.heap.get? o = some (fo (.set eo epo to))) (hc : Copies big eo to) :
    Runs w 14 (copyOf o) s (.ref s.heap.objs.size) { s with heap := s.heap.push (fo (copyD big w.params eo to)) } := by
  have hlt := Heap.lt_size ho
  have hne : (s.heap.objs.size == o) = false := beq_eq_false_iff_ne.mpr (Nat.ne_of_gt hlt)
  have hz : eo.size ≤ sizeLine := by
    have : sizeLine = 16777216 := by decide
    have := hc.size
    cases big <;> simp at this <;> omega
  have hemp : eo.isEmpty = false := by
    have := hc.size
    have : eo.size ≠ 0 := by cases big <;> simp at this <;> omega
    simpa using this
  unfold copyOf
  refine Runs.bind (A := 1) (B := 13) (runs_baseOf ho) ?_
  refine Runs.bind (A := 2) (B := 11) runs_newSet ?_
  refine Runs.bind (A := 0) (B := 11) Runs.pure ?_
  refine Runs.bind (A := 8) (B := 3) (a := ()) (s₁ := { s with heap := s.heap.push (fo (copyD big w.params eo to)) }) ?_ (Runs.up Runs.pure (by decide))
  have hget : (s.heap.push (fo (freshD w.params))).get? s.heap.objs.size = some (fo (freshD w.params)) := Heap.get?_push_size _ rfl
  have hgo : (s.heap.push (fo (freshD w.params))).get? o = some (fo (.set eo epo to)) := Heap.get?_push_of_some _ ho
  cases big with
  | false =>
    have e : eo.size = 2 := by simpa using hc.size
    have := runs_mergeSlot (w := w) (s := { s with heap := s.heap.push (fo (freshD w.params)) }) (B := 1) (each := pure ()) (r := s.heap.objs.size) (o := o) hne hs hgo hc.fits hemp hz (runs_roomNone hget rfl (by rw [e]; rfl)) hget rfl (by
      have e1 := hc.mask
      have e2 := hc.dum
      simp only [Bool.false_eq_true, ↓reduceIte] at e1
      unfold SetTable.road
      rw [e1, e2]; rfl)
    simp only [push_upd] at this
    exact Runs.up this (by decide)
  | true =>
    have e : eo.size = 32 ∨ eo.size = 33 := by simpa using hc.size
    have hroad : (relT (ledOf w.params)).road to = .slotForSlot := by
      have e1 := hc.mask
      have e2 := hc.dum
      simp only [↓reduceIte] at e1
      unfold SetTable.road
      rw [e1, e2]; rfl
    have hroom : Runs w 4 (setRoomFor s.heap.objs.size eo.size) { s with heap := s.heap.push (fo (freshD w.params)) } () { s with heap := s.heap.push (fo (.set #[] 1 (relT (ledOf w.params)))) } := by
      rcases e with e | e
      · have := runs_roomNew (w := w) (s := { s with heap := s.heap.push (fo (freshD w.params)) }) (r := s.heap.objs.size) (more := eo.size) (wanted := 64) hget hs (by rw [e]; rfl) (by decide) (relaid127 _)
        simp only [push_upd] at this
        exact this
      · have := runs_roomNew (w := w) (s := { s with heap := s.heap.push (fo (freshD w.params)) }) (r := s.heap.objs.size) (more := eo.size) (wanted := 66) hget hs (by rw [e]; rfl) (by decide) (relaid127' _)
        simp only [push_upd] at this
        exact this
    have := runs_mergeSlot (w := w) (s := { s with heap := s.heap.push (fo (freshD w.params)) }) (each := pure ()) (r := s.heap.objs.size) (o := o) hne hs hgo hc.fits hemp hz hroom (Heap.get?_push_size _ rfl) rfl hroad
    simp only [push_upd] at this
    exact this

open Builtin Builtin.Frozenset in
noncomputable def myOr : Builtin := fun args => do
  let (self, other) ← slot1 "__or__" args
  if !(← isAnySet self <&&> isAnySet other) then rule "frozenset.__or__.declined"; return ← ret .notImplemented
  ret (← (do
    let result ← copyOf (← addrOf self)
    if other != .ref (← addrOf self) then holding [result] (updateFrom "frozenset.__or__" (← addrOf result) other)
    return result))
theorem or_eq (l r : Addr) : Builtin.«frozenset.__or__» ⟨[.ref l, .ref r], []⟩ = myOr ⟨[.ref l, .ref r], []⟩ := rfl
end
end Mine
end
section
open PySem PySem.W PyProof.Rows PySem.Calls
set_option maxRecDepth 100000
namespace Mine
section
variable {w : World} {s s₁ : Shared} {r o l : Addr} {er eo el : Array (Int × Value)} {epr epo epl : Nat} {tr to tl : SetTable}
/-- a copy to which one more goes -/
structure FJoins (big : Bool) (P : Params) (es : Array (Int × Value)) (t : SetTable) (z : Str) : Prop where
  fits : (mergeT (copyT big P) t).fits es.size = true
  room : (mergeT (copyT big P) t).roomFor 1 = none
  road : ∀ t' : SetTable, (mergeT (copyT big P) t).road t' = .oneByOne
  txts : ∀ e ∈ es.toList, ∃ y j, e.2 = Value.str y j ∧ y ≠ z
  size : es.size < 1000
open Builtin Builtin.Frozenset in
theorem runs_or {big : Bool} {z : Str} {k : Tok} {h : Int} (hs : Nat.ble 11 s.heap.objs.size = true) (hne : (l == r) = false) (hl : s.heap.get? l = some (fo (.set el epl tl))) (hc : Copies big el tl)
    (hr : s.heap.get? r = some (fo (.set #[(h, .str z k)] epr tr))) (hfr : tr.fits 1 = true) (hj : FJoins big w.params el tl z) :
    Runs w 60 (Builtin.«frozenset.__or__» ⟨[.ref l, .ref r], []⟩) s (.done (.ret (.ref s.heap.objs.size))) { s with heap := s.heap.push (fo (addData h (.str z k) (copyD big w.params el tl))) } := by
  have hlt := Heap.lt_size hr
  rw [or_eq]
  unfold myOr
  refine Runs.bind (A := 0) (B := 60) (a := (.ref l, .ref r)) Runs.pure ?_
  dsimp only
  have e1 : Runs w 4 (isAnySet (.ref l) <&&> isAnySet (.ref r)) s true s := Runs.bind (A := 2) (B := 2) (runs_isAny hl) (runs_isAny hr)
  refine Runs.bind (A := 4) (B := 56) e1 ?_
  simp only [Bool.not_true, Bool.false_eq_true, ↓reduceIte]
  refine Runs.bind (A := 56) (B := 0) (a := Value.ref s.heap.objs.size) (s₁ := { s with heap := s.heap.push (fo (addData h (.str z k) (copyD big w.params el tl))) }) ?_ Runs.pure
  refine Runs.bind (A := 0) (B := 56) (a := l) Runs.pure ?_
  refine Runs.bind (A := 14) (B := 42) (runs_copy hs hl hc) ?_
  refine Runs.bind (A := 0) (B := 42) (a := l) Runs.pure ?_
  have en : (Value.ref r != Value.ref l) = true := by
    have : r ≠ l := fun e => by subst e; simp at hne
    simpa using this
  rw [if_pos en]
  refine Runs.bind (A := 42) (B := 0) (a := ()) ?_ Runs.pure
  refine Runs.holding ?_
  unfold updateFrom
  have hr' : (s.heap.push (fo (copyD big w.params el tl))).get? r = some (fo (.set #[(h, .str z k)] epr tr)) := Heap.get?_push_of_some _ hr
  refine Runs.bind (A := 2) (B := 40) (runs_isAny hr') ?_
  simp only [↓reduceIte]
  refine Runs.bind (A := 0) (B := 40) (a := r) Runs.pure ?_
  unfold merge
  refine Runs.bind (A := 1) (B := 39) (runs_epoch hr' hfr) ?_
  have hne' : (s.heap.objs.size == r) = false := beq_eq_false_iff_ne.mpr (Nat.ne_of_gt hlt)
  have := runs_mergeOne (w := w) (s := { s with heap := s.heap.push (fo (copyD big w.params el tl)) }) (r := s.heap.objs.size) (o := r) (each := unchanged "frozenset.__or__" r epr) (tr := mergeT (copyT big w.params) tl) (er := el) (epr := if big then 2 else 1)
    hne' hs hr' hfr (Heap.get?_push_size _ rfl) hj.fits hj.room (hj.road tr) hj.txts (by have := hj.size; have : scanBound = 4096 := rfl; omega) (fun s' e => runs_unchanged (by rw [e]; exact hr') hfr)
  simp only [push_upd] at this
  exact Runs.up this (by decide)

theorem scan_found {z : Str} {k k' : Tok} {h : Int} {i : Nat} {t : SetTable} {es : Array (Int × Value)} {ep : Nat} {hh : Int} (ho : s.heap.get? o = some (fo (.set es ep t))) (hf : t.fits es.size = true) (hel : ∀ e ∈ es.toList, ∃ y j, e.2 = Value.str y j)
    (hi : es.findIdx? (·.2.isStr z) = some i) (hv : es[i]? = some (hh, .str z k')) (heq : Runs w 4 (eqBool (.str z k') (.str z k)) s true s) : Runs w 6 (setScan o (.str z k) h false es) s (.found i) s := by
  unfold setScan
  dsimp only
  rw [if_pos (all_strs hel)]
  unfold setScanStrs
  rw [hi]
  dsimp only
  rw [hv]
  dsimp only
  refine Runs.bind (A := 1) (B := 5) (runs_epoch ho hf) ?_
  refine Runs.bind (A := 4) (B := 1) heq ?_
  simp only [Bool.false_and, Bool.false_eq_true, ↓reduceIte]
  refine Runs.bind (A := 1) (B := 0) (runs_epoch ho hf) ?_
  rw [show (ep != ep) = false by simp]
  simp only [Bool.false_eq_true, ↓reduceIte]
  exact Runs.pure
noncomputable def dropData (i : Nat) : Data → Data
  | .set es ep t => .set (SetTable.eraseAt es i) (ep + 1) (t.drop i)
  | d => d
theorem runs_discard {z : Str} {k k' : Tok} {h : Int} {i : Nat} {t : SetTable} {es : Array (Int × Value)} {ep : Nat} {hh : Int} (ho : s.heap.get? o = some (fo (.set es ep t))) (ha : Nat.ble 11 o = true) (hf : t.fits es.size = true) (hel : ∀ e ∈ es.toList, ∃ y j, e.2 = Value.str y j)
    (hi : es.findIdx? (·.2.isStr z) = some i) (hv : es[i]? = some (hh, .str z k')) (heq : Runs w 4 (eqBool (.str z k') (.str z k)) s true s) (hsz : es.size < scanBound) (hz : (SetTable.eraseAt es i).size ≤ sizeLine) :
    Runs w 14 (setDiscardHashed o (.str z k) h) s true { s with heap := s.heap.update o (fun _ => fo (dropData i (.set es ep t))) } := by
  unfold setDiscardHashed
  refine Runs.bind (A := 8) (B := 6) (a := some i) (s₁ := s) ?_ ?_
  · unfold setFind setFindIn
    refine Runs.bind (A := 1) (B := 7) (runs_state ho hf) ?_
    dsimp only
    rw [by_scan hel hsz]
    simp only [↓reduceIte]
    refine Runs.bind (A := 1) (B := 6) Runs.rule ?_
    exact Runs.bind (A := 6) (B := 0) (scan_found ho hf hel hi hv heq) Runs.pure
  · dsimp only
    refine Runs.bind (A := 1) (B := 5) (runs_state ho hf) ?_
    dsimp only
    refine Runs.bind (A := 2) (B := 3) (runs_store ho ha hz) ?_
    exact Runs.bind (A := 1) (B := 2) Runs.point (Runs.up Runs.pure (by decide))

open Builtin Builtin.Frozenset in
noncomputable def mySub : Builtin := fun args => do
  let (self, other) ← slot1 "__sub__" args
  if !(← isAnySet self <&&> isAnySet other) then rule "frozenset.__sub__.declined"; return ← ret .notImplemented
  ret (← difference "frozenset.__sub__" (← addrOf self) other)
theorem sub_eq (l r : Addr) : Builtin.«frozenset.__sub__» ⟨[.ref l, .ref r], []⟩ = mySub ⟨[.ref l, .ref r], []⟩ := rfl

/-- a copy from which one goes -/
structure Leaves (P : Params) (es : Array (Int × Value)) (t : SetTable) (z : Str) (k' : Tok) (i : Nat) (hh : Int) : Prop where
  fits : (mergeT (copyT true P) t).fits es.size = true
  txts : ∀ e ∈ es.toList, ∃ y j, e.2 = Value.str y j
  idx : es.findIdx? (·.2.isStr z) = some i
  val : es[i]? = some (hh, .str z k')
  big : 8 ≤ es.size
  size : es.size < 1000
  esz : (SetTable.eraseAt es i).size ≤ sizeLine
  fits' : ((mergeT (copyT true P) t).drop i).fits (SetTable.eraseAt es i).size = true
  tidy : ((mergeT (copyT true P) t).drop i).tooManyDummies = false
open Builtin Builtin.Frozenset in
theorem runs_sub {z : Str} {k k' : Tok} {h hh : Int} {i : Nat} (hs : Nat.ble 11 s.heap.objs.size = true) (hne : (l == r) = false) (hl : s.heap.get? l = some (fo (.set el epl tl))) (hc : Copies true el tl)
    (hr : s.heap.get? r = some (fo (.set #[(h, .str z k)] epr tr))) (hfr : tr.fits 1 = true) (hj : Leaves w.params el tl z k' i hh) (heq : ∀ s, Runs w 4 (eqBool (.str z k') (.str z k)) s true s) :
    Runs w 80 (Builtin.«frozenset.__sub__» ⟨[.ref l, .ref r], []⟩) s (.done (.ret (.ref s.heap.objs.size))) { s with heap := s.heap.push (fo (dropData i (copyD true w.params el tl))) } := by
  have hlt := Heap.lt_size hr
  have hbig := hj.big
  rw [sub_eq]
  unfold mySub
  refine Runs.bind (A := 0) (B := 80) (a := (.ref l, .ref r)) Runs.pure ?_
  dsimp only
  have e1 : Runs w 4 (isAnySet (.ref l) <&&> isAnySet (.ref r)) s true s := Runs.bind (A := 2) (B := 2) (runs_isAny hl) (runs_isAny hr)
  refine Runs.bind (A := 4) (B := 76) e1 ?_
  simp only [Bool.not_true, Bool.false_eq_true, ↓reduceIte]
  refine Runs.bind (A := 0) (B := 76) (a := l) Runs.pure ?_
  refine Runs.bind (A := 76) (B := 0) (a := Value.ref s.heap.objs.size) (s₁ := { s with heap := s.heap.push (fo (dropData i (copyD true w.params el tl))) }) ?_ Runs.pure
  unfold difference
  dsimp only
  refine Runs.bind (A := 2) (B := 74) (runs_isAny hr) ?_
  simp only [Bool.not_true, Bool.false_eq_true, ↓reduceIte, Bool.false_and]
  refine Runs.bind (A := 0) (B := 74) (a := r) Runs.pure ?_
  refine Runs.bind (A := 1) (B := 73) (runs_sizeOf hr hfr) ?_
  refine Runs.bind (A := 1) (B := 72) (runs_sizeOf hl hc.fits) ?_
  rw [if_pos (show el.size / 4 > (#[(h, Value.str z k)] : Array (Int × Value)).size by show el.size / 4 > 1; omega)]
  refine Runs.bind (A := 1) (B := 71) Runs.rule ?_
  refine Runs.bind (A := 14) (B := 57) (runs_copy hs hl hc) ?_
  refine Runs.bind (A := 57) (B := 0) (a := ()) (s₁ := { s with heap := s.heap.push (fo (dropData i (copyD true w.params el tl))) }) ?_ Runs.pure
  refine Runs.holding ?_
  unfold differenceUpdate
  have hne' : (s.heap.objs.size == r) = false := beq_eq_false_iff_ne.mpr (Nat.ne_of_gt hlt)
  have en : (Value.ref r == Value.ref s.heap.objs.size) = false := by
    have : r ≠ s.heap.objs.size := Nat.ne_of_lt hlt
    simpa using this
  rw [en]
  simp only [Bool.false_eq_true, ↓reduceIte]
  have hr' : (s.heap.push (fo (copyD true w.params el tl))).get? r = some (fo (.set #[(h, .str z k)] epr tr)) := Heap.get?_push_of_some _ hr
  have hs' : (s.heap.push (fo (copyD true w.params el tl))).get? s.heap.objs.size = some (fo (copyD true w.params el tl)) := Heap.get?_push_size _ rfl
  refine Runs.bind (A := 2) (B := 55) (runs_isAny hr') ?_
  simp only [↓reduceIte]
  refine Runs.bind (A := 0) (B := 55) (a := r) Runs.pure ?_
  refine Runs.bind (A := 1) (B := 54) (runs_sizeOf hr' hfr) ?_
  refine Runs.bind (A := 1) (B := 53) (runs_sizeOf hs' hj.fits) ?_
  rw [if_neg (show ¬ (#[(h, Value.str z k)] : Array (Int × Value)).size / 8 > el.size by show ¬ 1 / 8 > el.size; omega)]
  refine Runs.bind (A := 1) (B := 52) (runs_epoch hr' hfr) ?_
  have hfin : (s.heap.push (fo (dropData i (copyD true w.params el tl)))).get? s.heap.objs.size = some (fo (dropData i (copyD true w.params el tl))) := Heap.get?_push_size _ rfl
  refine Runs.bind (A := 40) (B := 12) (a := ()) (s₁ := { s with heap := s.heap.push (fo (dropData i (copyD true w.params el tl))) }) ?_ ?_
  · refine Runs.holding ?_
    refine Runs.bind (A := 5) (B := 35) (runs_unseen1 hr' hfr) ?_
    rw [← Array.forIn_toList]
    simp only [List.forIn_cons, List.forIn_nil]
    refine Runs.bind (A := 35) (B := 0) (a := PUnit.unit) ?_ Runs.pure
    refine Runs.bind (A := 35) (B := 0) (a := .yield PUnit.unit) ?_ Runs.pure
    have d := runs_discard (w := w) (s := { s with heap := s.heap.push (fo (copyD true w.params el tl)) }) (o := s.heap.objs.size) (h := h) hs' hs hj.fits hj.txts hj.idx hj.val (heq _) (by have := hj.size; have : scanBound = 4096 := rfl; omega) hj.esz
    simp only [push_upd] at d
    refine Runs.bind (A := 14) (B := 21) (Runs.holding d) ?_
    refine Runs.bind (A := 1) (B := 20) (runs_unchanged (Heap.get?_push_of_some _ hr) hfr) ?_
    exact Runs.up Runs.pure (by decide)
  · unfold setTidy
    refine Runs.bind (A := 1) (B := 11) (runs_state (es := SetTable.eraseAt el i) (ep := 3) (t := (mergeT (copyT true w.params) tl).drop i) hfin hj.fits') ?_
    dsimp only
    rw [hj.tidy]
    simp only [Bool.false_eq_true, ↓reduceIte]
    exact Runs.up Runs.pure (by decide)
end
end Mine
end
section
open PySem PySem.W PyProof.Rows PySem.Calls
set_option maxRecDepth 100000
namespace Mine
open SetTable

theorem pigeon : ∀ (m : Nat) (l : List Nat), l.length < m → ∃ f, f < m ∧ f ∉ l
  | 0, _, h => absurd h (Nat.not_lt_zero _)
  | m + 1, l, h => by
    by_cases hm : m ∈ l
    · obtain ⟨f, h1, h2⟩ := pigeon m (l.erase m) (by rw [List.length_erase_of_mem hm]; have := List.length_pos_of_mem hm; omega)
      exact ⟨f, by omega, fun q => h2 ((List.mem_erase_of_ne (by omega)).mpr q)⟩
    · exact ⟨m, by omega, hm⟩

/-- the places that a search comes by, turn by turn -/
noncomputable def turn (mask i p : Nat) : Nat → Nat × Nat
  | 0 => (i, p)
  | k + 1 => leap mask (turn mask i p k).1 (turn mask i p k).2
theorem turn_p (mask i p : Nat) : ∀ k, (turn mask i p k).2 = p / 32 ^ k
  | 0 => by simp [turn]
  | k + 1 => by
    show (turn mask i p k).2 / 32 = _
    rw [turn_p mask i p k, Nat.div_div_eq_div_mul, Nat.pow_succ]
theorem turn_lt {mask i p : Nat} (hi : i < mask + 1) : ∀ k, (turn mask i p k).1 < mask + 1
  | 0 => hi
  | k + 1 => Nat.mod_lt _ (Nat.succ_pos _)
theorem turn_succ (mask i p : Nat) (k : Nat) : turn mask i p (k + 1) = turn mask (leap mask i p).1 (leap mask i p).2 k := by
  induction k with
  | zero => rfl
  | succ k ih =>
    show leap mask (turn mask i p (k + 1)).1 (turn mask i p (k + 1)).2 = leap mask _ _
    rw [ih]
noncomputable def lcg (m i : Nat) : Nat := (i * 5 + 1) % m
noncomputable def lcgs (m : Nat) : Nat → Nat → Nat
  | 0, i => i
  | k + 1, i => lcgs m k (lcg m i)
/-- all places are come by -/
noncomputable def Covers (mask : Nat) : Prop := ∀ i, i < mask + 1 → ∀ f, f < mask + 1 → ∃ k, k < mask + 1 ∧ lcgs (mask + 1) k i = f
theorem turn_zero {mask i : Nat} : ∀ k, turn mask i 0 k = (lcgs (mask + 1) k i, 0)
  | 0 => rfl
  | k + 1 => by
    rw [turn_succ]
    have : leap mask i 0 = (lcg (mask + 1) i, 0) := by unfold leap lcg; simp
    rw [this, turn_zero k]; rfl
theorem turn_add (mask i p a b : Nat) : turn mask i p (a + b) = turn mask (turn mask i p a).1 (turn mask i p a).2 b := by
  induction b with
  | zero => rfl
  | succ b ih =>
    show leap mask (turn mask i p (a + b)).1 (turn mask i p (a + b)).2 = leap mask _ _
    rw [ih]
theorem turn_hits {mask i p f : Nat} (hc : Covers mask) (hi : i < mask + 1) (hp : p < 2 ^ 64) (hf : f < mask + 1) : ∃ k, k < mask + 14 ∧ (turn mask i p k).1 = f := by
  have h13 : (turn mask i p 13).2 = 0 := by rw [turn_p]; exact Nat.div_eq_of_lt (Nat.lt_of_lt_of_le hp (by decide))
  obtain ⟨k, hk, e⟩ := hc _ (turn_lt hi 13) f hf
  refine ⟨13 + k, by omega, ?_⟩
  rw [turn_add, h13, turn_zero]
  exact e
/-- which of the first m numbers are in the orbit, as bits -/
noncomputable def orb (m : Nat) : Nat → Nat → Nat → Nat
  | 0, _, acc => acc
  | k + 1, i, acc => orb m k (lcg m i) (acc ||| 2 ^ i)
theorem orb_bit {m f : Nat} : ∀ (k i acc : Nat), (orb m k i acc).testBit f = true → acc.testBit f = true ∨ ∃ j, j < k ∧ lcgs m j i = f
  | 0, _, _, h => .inl h
  | k + 1, i, acc, h => by
    rcases orb_bit k (lcg m i) (acc ||| 2 ^ i) h with q | ⟨j, hj, e⟩
    · rw [Nat.testBit_or, Bool.or_eq_true] at q
      rcases q with q | q
      · exact .inl q
      · rw [Nat.testBit_two_pow] at q
        exact .inr ⟨0, by omega, by simpa [lcgs] using q⟩
    · exact .inr ⟨j + 1, by omega, e⟩
noncomputable def covB (m : Nat) : Bool := (List.range m).all fun i => Nat.beq (orb m m i 0) (2 ^ m - 1)
theorem covers_of {mask : Nat} (h : covB (mask + 1) = true) : Covers mask := fun i hi f hf => by
  have := List.all_eq_true.mp h i (List.mem_range.mpr hi)
  have e := Nat.eq_of_beq_eq_true this
  have hb : (orb (mask + 1) (mask + 1) i 0).testBit f = true := by
    rw [e, Nat.testBit_two_pow_sub_one]
    simpa using hf
  rcases orb_bit _ _ _ hb with q | q
  · simp at q
  · exact q
theorem cov7 : Covers 7 := covers_of (by decide +kernel)
theorem cov31 : Covers 31 := covers_of (by decide +kernel)
theorem cov127 : Covers 127 := covers_of (by decide +kernel)

theorem bits_lt (h : Int) : bits h < 2 ^ 64 := by
  unfold bits
  have h1 : 0 ≤ h % (2 ^ 64 : Int) := Int.emod_nonneg _ (by decide)
  have h2 : h % (2 ^ 64 : Int) < 2 ^ 64 := Int.emod_lt_of_pos _ (by decide)
  omega
end Mine
end
section
open PySem PySem.W PyProof.Rows PySem.Calls
set_option maxRecDepth 100000
namespace Mine
open SetTable
section
variable {t : SetTable} {hashAt : Nat → Int} {h : Int}
theorem has_nil (j : Nat) : has #[] j = false := rfl
theorem slot_cases (hd : t.dummies = #[]) (j : Nat) : t.slot j = .empty ∨ ∃ i, t.slot j = .live i := by
  unfold slot
  dsimp only
  split
  · exact .inr ⟨_, rfl⟩
  · rw [hd, has_nil]; exact .inl rfl
theorem slot_out (hd : t.dummies = #[]) {j : Nat} (hj : j ∉ t.place.toList) : t.slot j = .empty := by
  unfold slot
  dsimp only
  split
  · rename_i q
    have : t.place[below t.place j]? = some j := by simpa using q
    exact absurd (Array.mem_toList_iff.mpr (Array.mem_of_getElem? this)) hj
  · rw [hd, has_nil]; rfl
noncomputable def start (mask i q : Nat) : Probe := ⟨i, runEnd mask i - i, i, q, none⟩
theorem window (hd : t.dummies = #[]) (hh : ∀ i, (hashAt i == h) = false) : ∀ (more : Nat) (j i q F : Nat),
    (∃ j', probe.go t hashAt h (more + 1 + F) ⟨j, more, i, q, none⟩ = some (.empty j' none)) ∨ (t.slot j ≠ .empty ∧ probe.go t hashAt h (more + 1 + F) ⟨j, more, i, q, none⟩ = probe.go t hashAt h F (start t.mask (leap t.mask i q).1 (leap t.mask i q).2))
  | more, j, i, q, F => by
    have step : probe.go t hashAt h (more + F + 1) ⟨j, more, i, q, none⟩ = match t.slot j with
        | .empty => some (.empty j none)
        | .dummy => probe.go t hashAt h (more + F) (t.advance ⟨j, more, i, q, some j⟩)
        | .live i' => if hashAt i' == h then some (.candidate j i' (t.advance ⟨j, more, i, q, none⟩)) else probe.go t hashAt h (more + F) (t.advance ⟨j, more, i, q, none⟩) := rfl
    rw [show more + 1 + F = more + F + 1 by omega, step]
    rcases slot_cases hd j with e | ⟨i', e⟩
    · rw [e]; exact .inl ⟨j, rfl⟩
    · rw [e]
      dsimp only
      rw [hh i']
      simp only [Bool.false_eq_true, ↓reduceIte]
      cases more with
      | zero =>
        refine .inr ⟨by simp, ?_⟩
        rw [Nat.zero_add]
        rfl
      | succ m =>
        have e2 : t.advance ⟨j, m + 1, i, q, none⟩ = ⟨j + 1, m, i, q, none⟩ := by
          unfold advance
          rw [if_pos (show m + 1 > 0 by omega)]
          simp
        rw [e2]
        rcases window hd hh m (j + 1) i q F with r | ⟨_, r⟩
        · exact .inl r
        · exact .inr ⟨by simp, r⟩
theorem runEnd_le (mask i : Nat) : runEnd mask i - i ≤ 9 := by unfold runEnd; split <;> omega
theorem go_finds (hd : t.dummies = #[]) (hh : ∀ i, (hashAt i == h) = false) : ∀ (k i q fuel : Nat), t.slot (turn t.mask i q k).1 = .empty → 10 * (k + 1) ≤ fuel → ∃ j, probe.go t hashAt h fuel (start t.mask i q) = some (.empty j none)
  | k, i, q, fuel, he, hf => by
    have hr := runEnd_le t.mask i
    obtain ⟨F, hF⟩ : ∃ F, fuel = (runEnd t.mask i - i) + 1 + F := ⟨fuel - ((runEnd t.mask i - i) + 1), by omega⟩
    rw [hF]
    rcases window (hashAt := hashAt) (h := h) hd hh (runEnd t.mask i - i) i i q F with r | ⟨n, r⟩
    · exact r
    · cases k with
      | zero => exact absurd he n
      | succ k =>
        unfold start
        rw [r]
        rw [turn_succ] at he
        exact go_finds hd hh k _ _ F he (by omega)
theorem freeSlot_ok (hd : t.dummies = #[]) (hc : Covers t.mask) (hn : t.place.size ≤ t.mask) : ∃ j, t.freeSlot h = some (j, false) := by
  obtain ⟨f, hf, hout⟩ := pigeon (t.mask + 1) t.place.toList (by rw [Array.length_toList]; omega)
  have hi : bits h % (t.mask + 1) < t.mask + 1 := Nat.mod_lt _ (Nat.succ_pos _)
  obtain ⟨k, hk, e⟩ := turn_hits hc hi (bits_lt h) hf
  have hne : ∀ i : Nat, ((fun _ => h + 1) i == h) = false := fun i => by
    show (h + 1 == h) = false
    rw [beq_eq_false_iff_ne]; omega
  obtain ⟨j, hj⟩ := go_finds (hashAt := fun _ => h + 1) (h := h) hd hne k _ _ (10 * turns t.mask) (by rw [e]; exact slot_out hd hout) (by unfold turns; omega)
  refine ⟨j, ?_⟩
  unfold freeSlot probe
  have : t.probeStart h = start t.mask (bits h % (t.mask + 1)) (bits h) := rfl
  rw [this, hj]
  rfl
theorem insertAt_size {α : Type} (xs : Array α) (p : Nat) (x : α) : (SetTable.insertAt xs p x).size = xs.size + 1 := by
  have := (SetTable.insertAt_perm xs p x).length_eq
  simpa using this
theorem layNew_ok {es : Array (Int × Value)} {x : Value} (hd : t.dummies = #[]) (hc : Covers t.mask) (hn : t.place.size = es.size) (hm : es.size < t.mask) :
    ∃ p q j, layNew t es h x = (SetTable.insertAt es q (h, x), { t with place := SetTable.insertAt t.place p j }, false, false) := by
  obtain ⟨j, hj⟩ := freeSlot_ok (t := t) (h := h) hd hc (by omega)
  unfold layNew
  rw [hj]
  dsimp only
  have hp : t.put j = ({ t with place := SetTable.insertAt t.place (below t.place j) j }, below t.place j) := by
    unfold put
    dsimp only
    rw [hd, has_nil]
    rfl
  rw [hp]
  dsimp only
  have hfits : ({ t with place := SetTable.insertAt t.place (below t.place j) j } : SetTable).fits (SetTable.insertAt es (below t.place j) (h, x)).size = true := by
    simp only [SetTable.fits, SetTable.fill, insertAt_size, hd, Bool.and_eq_true, beq_iff_eq, decide_eq_true_eq]
    exact ⟨by omega, by simp; omega⟩
  unfold SetTable.orStandIn
  rw [hfits]
  exact ⟨_, _, _, rfl⟩
end
end Mine
end
section
open PySem PySem.W PyProof.Rows PySem.Calls
set_option maxRecDepth 100000
namespace Mine
open SetTable
theorem gap_none : ∀ (l : List (Option Nat)), (l.filterMap id).length < l.length → ∃ f : Nat, l[f]? = some Option.none
  | [], h => by simp at h
  | none :: r, h => ⟨0, rfl⟩
  | some a :: r, h => by
    simp only [List.filterMap_cons, id, List.length_cons] at h
    obtain ⟨f, hf⟩ := gap_none r (by omega)
    exact ⟨f + 1, by simpa using hf⟩
theorem set_perm (k : Nat) : ∀ (l : List (Option Nat)) (j : Nat), l[j]? = some none → ((l.set j (some k)).filterMap id).Perm (k :: l.filterMap id)
  | [], j, h => by simp at h
  | o :: r, 0, h => by
    simp only [List.getElem?_cons_zero, Option.some.injEq] at h
    subst h
    simp
  | none :: r, j + 1, h => by
    simp only [List.getElem?_cons_succ] at h
    simpa using set_perm k r j h
  | some a :: r, j + 1, h => by
    simp only [List.getElem?_cons_succ] at h
    simp only [List.set_cons_succ, List.filterMap_cons, id]
    exact ((set_perm k r j h).cons a).trans (List.Perm.swap k a _)

structure LI (mask : Nat) (owner : Array (Option Nat)) (k : Nat) : Prop where
  size : owner.size = mask + 1
  perm : (owner.toList.filterMap id).Perm (List.range k)
section
variable {mask : Nat} {owner : Array (Option Nat)} {k : Nat}
theorem LI.new : LI mask (Array.replicate (mask + 1) none) 0 := ⟨by simp, by simp⟩
theorem free_finds : ∀ (k i q fuel : Nat), owner[(turn mask i q k).1]? = some none → k + 1 ≤ fuel → ∃ j, layClean.free mask owner fuel i q = some j ∧ owner[j]? = some none
  | k, i, q, 0, _, hf => by omega
  | k, i, q, fuel + 1, he, hf => by
    unfold layClean.free
    cases hq : (List.range (runEnd mask i + 1 - i)).find? (fun k => (owner.getD (i + k) (some 0)).isNone) with
    | some a =>
      refine ⟨i + a, rfl, ?_⟩
      have := List.find?_some hq
      simp only [Option.isNone_iff_eq_none] at this
      rw [Array.getD_eq_getD_getElem?] at this
      cases ho : owner[i + a]? with
      | none => rw [ho] at this; simp at this
      | some v => rw [ho] at this; simp at this; rw [this]
    | none =>
      dsimp only
      cases k with
      | zero =>
        exfalso
        have h0 := List.find?_eq_none.mp hq 0 (List.mem_range.mpr (by unfold runEnd; split <;> omega))
        have he' : owner[i]? = some none := he
        rw [Nat.add_zero, Array.getD_eq_getD_getElem?, he'] at h0
        simp at h0
      | succ k =>
        rw [turn_succ] at he
        exact free_finds k _ _ fuel he (by omega)
theorem LI.step (x : LI mask owner k) (hc : Covers mask) (hk : k < mask + 1) (h : Int) : ∃ j, layClean.free mask owner (turns mask) (bits h % (mask + 1)) (bits h) = some j ∧ LI mask (owner.setIfInBounds j (some k)) (k + 1) := by
  have hl : (owner.toList.filterMap id).length < owner.toList.length := by rw [x.perm.length_eq, List.length_range, Array.length_toList, x.size]; exact hk
  obtain ⟨f, hf⟩ := gap_none _ hl
  have hlt : f < mask + 1 := by
    obtain ⟨h1, _⟩ := List.getElem?_eq_some_iff.mp hf
    rw [Array.length_toList, x.size] at h1; exact h1
  obtain ⟨n, hn, e⟩ := turn_hits hc (Nat.mod_lt (bits h) (Nat.succ_pos mask)) (bits_lt h) hlt
  obtain ⟨j, h1, h2⟩ := free_finds (owner := owner) n _ _ (turns mask) (by rw [e]; simpa using hf) (by unfold turns; omega)
  refine ⟨j, h1, ⟨by simp [x.size], ?_⟩⟩
  rw [Array.toList_setIfInBounds]
  refine (set_perm k _ j (by simpa using h2)).trans ?_
  rw [List.range_succ]
  exact ((x.perm.cons k).trans (List.perm_append_comm (l₁ := [k])))
theorem LI.fold (hc : Covers mask) : ∀ (hs : List Int) (owner : Array (Option Nat)) (k : Nat), LI mask owner k → k + hs.length ≤ mask + 1 → ∃ owner', hs.foldl (fun acc h => do
      let (owner, k) ← acc
      let j ← layClean.free mask owner (turns mask) (bits h % (mask + 1)) (bits h)
      pure (owner.setIfInBounds j (some k), k + 1)) (some (owner, k)) = some (owner', k + hs.length) ∧ LI mask owner' (k + hs.length)
  | [], owner, k, x, _ => ⟨owner, rfl, x⟩
  | h :: hs, owner, k, x, hk => by
    simp only [List.length_cons] at hk
    obtain ⟨j, h1, h2⟩ := x.step hc (by omega) h
    obtain ⟨o', h3, h4⟩ := LI.fold hc hs _ _ h2 (by omega)
    refine ⟨o', ?_, by rw [List.length_cons, show k + (hs.length + 1) = k + 1 + hs.length by omega]; exact h4⟩
    rw [List.foldl_cons]
    simp only [Option.bind_eq_bind, Option.bind_some, h1]
    rw [List.length_cons, show k + (hs.length + 1) = k + 1 + hs.length by omega]
    exact h3
theorem layClean_ok (hc : Covers mask) {hs : Array Int} (hz : hs.size ≤ mask + 1) : ∃ owner, layClean mask hs = some owner ∧ LI mask owner hs.size := by
  obtain ⟨o, h1, h2⟩ := LI.fold hc hs.toList _ 0 LI.new (by rw [Array.length_toList]; omega)
  rw [Nat.zero_add, Array.length_toList] at h1 h2
  refine ⟨o, ?_, h2⟩
  unfold layClean
  rw [← Array.foldl_toList, h1]
  rfl
theorem laid_ok (hc : Covers mask) {hs : Array Int} {fi mo : Nat} {le pl : Bool} (hz : hs.size ≤ mask + 1) : ∃ place order, laid mask fi mo le pl hs = some (⟨mask, place, #[], fi, le, mo, pl⟩, order) ∧ place.size = hs.size ∧ order.toList.Perm (List.range hs.size) := by
  obtain ⟨o, h1, h2⟩ := layClean_ok hc hz
  unfold laid
  rw [h1]
  have key : (((List.range (mask + 1)).filterMap fun j => (o.getD j none).map (j, ·)).map (·.2)) = o.toList.filterMap id := by
    rw [List.map_filterMap, ← h2.size, ← Array.length_toList]
    have e : ∀ j, Option.map (fun x : Nat × Nat => x.2) (Option.map (fun x => (j, x)) (o.getD j none)) = (o.toList[j]?).bind id := fun j => by
      rw [Array.getD_eq_getD_getElem?, Array.getElem?_toList]
      cases o[j]? with
      | none => rfl
      | some v => cases v <;> rfl
    simp only [e]
    rw [← List.filterMap_filterMap, List.filterMap_getElem?_range_length]
  have hp := h2.perm
  rw [← key] at hp
  refine ⟨_, _, rfl, ?_, by simpa using hp⟩
  have := hp.length_eq
  simpa using this
end
end Mine
end
section
open PySem PySem.W PyProof.Rows PySem.Calls
set_option maxRecDepth 100000
namespace Mine
open SetTable
section
variable {t : SetTable} {es : Array (Int × Value)} {h : Int} {x : Value} {n : Nat}
theorem relayAll_ok {wanted m : Nat} (hm : SetTable.sizeAbove wanted - 1 = m) (hc : Covers m) (hz : es.size ≤ m) :
    ∃ place mo, (relayAll t es wanted).2.1 = ⟨m, place, #[], t.finger, t.led, mo, t.plain⟩ ∧ place.size = es.size ∧ (relayAll t es wanted).1.size = es.size := by
  obtain ⟨place, order, h1, h2, h3⟩ := laid_ok (hs := es.map (·.1)) (fi := t.finger) (mo := t.movedTo m) (le := t.led) (pl := t.plain) hc (by rw [Array.size_map]; omega)
  rw [Array.size_map] at h2 h3
  have hr : t.relaid (es.map (·.1)) wanted = some (⟨m, place, #[], t.finger, t.led, t.movedTo m, t.plain⟩, order) := by
    unfold SetTable.relaid
    rw [hm]; exact h1
  have hs : (order.filterMap (es[·]?)).size = es.size := by
    have := (h3.filterMap (es[·]?)).length_eq
    rw [filterMap_getElem?_range, Array.length_toList, ← Array.toList_filterMap, Array.length_toList] at this
    exact this
  unfold relayAll
  rw [hr]
  dsimp only
  have hcond : (coversAll order es.size && SetTable.fits ⟨m, place, #[], t.finger, t.led, t.movedTo m, t.plain⟩ (order.filterMap (es[·]?)).size) = true := by
    rw [Bool.and_eq_true]
    refine ⟨List.isPerm_iff.mpr h3, ?_⟩
    simp only [SetTable.fits, SetTable.fill, Bool.and_eq_true, beq_iff_eq, decide_eq_true_eq]
    exact ⟨by rw [hs, h2], by simp; omega⟩
  rw [if_pos hcond]
  exact ⟨place, _, rfl, h2, hs⟩

noncomputable def maskAt (n : Nat) : Nat := if n < 5 then 7 else if n < 19 then 31 else 127
theorem covers_maskAt (n : Nat) : Covers (maskAt n) := by
  unfold maskAt
  split
  · exact cov7
  · split
    · exact cov31
    · exact cov127
structure TI (n : Nat) (t : SetTable) (es : Array (Int × Value)) : Prop where
  mask : t.mask = maskAt n
  dum : t.dummies = #[]
  place : t.place.size = n
  size : es.size = n
theorem TI.fits (k : TI n t es) (hn : n < 40) : t.fits es.size = true := by
  have e : t.fits es.size = (n == n && decide (n + 0 ≤ maskAt n)) := by
    unfold SetTable.fits SetTable.fill
    rw [k.dum, k.place, k.size, k.mask]
    rfl
  rw [e, Bool.and_eq_true, beq_iff_eq, decide_eq_true_eq]
  refine ⟨rfl, ?_⟩
  unfold maskAt
  split
  · omega
  · split <;> omega
theorem addFin_ok (k : TI n t es) (hn : n < 39) : TI (n + 1) (addFin t es h x).2.1 (addFin t es h x).1 ∧ ((addFin t es h x).1.toList).Perm (es.toList ++ [(h, x)]) := by
  have hlt : n < maskAt n := by
    unfold maskAt
    split
    · omega
    · split <;> omega
  obtain ⟨p, q, j, hL⟩ := layNew_ok (t := t) (es := es) (h := h) (x := x) k.dum (by rw [k.mask]; exact covers_maskAt n) (by rw [k.place, k.size]) (by rw [k.mask, k.size]; exact hlt)
  have hperm := layNew_perm t es h x
  rw [Array.toList_push] at hperm
  unfold addFin
  rw [hL] at hperm ⊢
  dsimp only at hperm ⊢
  have hsz : (SetTable.insertAt es q (h, x)).size = n + 1 := by rw [insertAt_size, k.size]
  have hfull : (off { t with place := SetTable.insertAt t.place p j }).tooFull = decide ((n + 1) * 5 ≥ maskAt n * 3) := by
    unfold SetTable.tooFull SetTable.fill off
    dsimp only
    rw [insertAt_size, k.place, k.dum, k.mask]
    rfl
  rw [hfull, hsz]
  by_cases hb : (n + 1) * 5 ≥ maskAt n * 3
  · rw [if_pos (by simpa using hb)]
    have hn' : n = 4 ∨ n = 18 := by
      unfold maskAt at hb
      split at hb
      · omega
      · split at hb <;> omega
    have hm : SetTable.sizeAbove (SetTable.grown (n + 1)) - 1 = maskAt (n + 1) := by rcases hn' with rfl | rfl <;> decide
    have hle : n + 1 ≤ maskAt (n + 1) := by rcases hn' with rfl | rfl <;> decide
    obtain ⟨place, mo, e1, e2, e3⟩ := relayAll_ok (t := off { t with place := SetTable.insertAt t.place p j }) (es := SetTable.insertAt es q (h, x)) hm (covers_maskAt _) (by rw [hsz]; exact hle)
    have hp := relayAll_perm (off { t with place := SetTable.insertAt t.place p j }) (SetTable.insertAt es q (h, x)) (SetTable.grown (n + 1))
    dsimp only
    refine ⟨⟨?_, ?_, ?_, ?_⟩, hp.trans hperm⟩
    · rw [e1]
    · rw [e1]
    · rw [e1]; dsimp only; rw [e2, hsz]
    · rw [e3, hsz]
  · rw [if_neg (by simpa using hb)]
    have hm : maskAt n = maskAt (n + 1) := by
      unfold maskAt at hb ⊢
      by_cases h5 : n < 5
      · rw [if_pos h5] at hb ⊢
        rw [if_pos (by omega)]
      · rw [if_neg h5] at hb ⊢
        rw [if_neg (by omega : ¬ n + 1 < 5)]
        by_cases h19 : n < 19
        · rw [if_pos h19] at hb ⊢
          rw [if_pos (by omega)]
        · rw [if_neg h19, if_neg (by omega)]
    exact ⟨⟨by show t.mask = _; rw [k.mask, hm], k.dum, by show (SetTable.insertAt t.place p j).size = _; rw [insertAt_size, k.place], hsz⟩, hperm⟩

/-- the data of a set that holds L -/
noncomputable def SD (L : List (Int × Value)) (d : Data) : Prop := ∃ es ep t, d = .set es ep t ∧ TI L.length t es ∧ es.toList.Perm L
theorem SD.fresh {P : Params} : SD [] (freshD P) := ⟨_, _, _, rfl, ⟨rfl, rfl, rfl, rfl⟩, by simp⟩
theorem SD.add {L : List (Int × Value)} {d : Data} (k : SD L d) (hn : L.length < 39) : SD (L ++ [(h, x)]) (addData h x d) := by
  obtain ⟨es, ep, t, rfl, k1, k2⟩ := k
  obtain ⟨a, b⟩ := addFin_ok (h := h) (x := x) k1 hn
  exact ⟨_, _, _, rfl, by rw [List.length_append]; exact a, b.trans (k2.append_right _)⟩
noncomputable def copyData (big : Bool) (P : Params) : Data → Data
  | .set es _ t => copyD big P es t
  | d => d
theorem SD.copy {L : List (Int × Value)} {d : Data} {big : Bool} {P : Params} (k : SD L d) : SD L (copyData big P d) := by
  obtain ⟨es, ep, t, rfl, k1, k2⟩ := k
  exact ⟨_, _, _, rfl, ⟨k1.mask, k1.dum, k1.place, k1.size⟩, k2⟩
end
end Mine
end
section
open PySem PySem.W PyProof.Rows PySem.Calls
namespace Mine

/-- plain values -/
inductive PV where
  | none
  | bool (b : Bool)
  | int (i : Int)
  | str (x : Str)
  | ref (v : Value)
  | rng (n : Nat)
  | list (l : List PV)
  | tup (l : List PV)

/-- the ghost: the data that nobody changes -/
noncomputable abbrev Gh := Addr → Option Obj

mutual
noncomputable def Rep (g : Gh) : PV → Value → Prop
  | .none, v => v = .none
  | .bool b, v => v = .bool b
  | .int i, v => ∃ t, v = .int i t
  | .str x, v => ∃ t, v = .str x t
  | .ref r, v => v = r
  | .rng n, v => ∃ a t₁ t₂ t₃, v = .ref a ∧ g a = some { cls := .type "range", data := .fields #[.int 0 t₁, .int n t₂, .int 1 t₃] }
  | .list l, v => ∃ a o n items, v = .ref a ∧ g a = some o ∧ o.cls = .type "list" ∧ o.data = .seq items n ∧ RepL g l items.toList
  | .tup l, v => ∃ a o n items, v = .ref a ∧ g a = some o ∧ o.cls = .type "tuple" ∧ o.data = .seq items n ∧ RepL g l items.toList
noncomputable def RepL (g : Gh) : List PV → List Value → Prop
  | [], vs => vs = []
  | p :: r, vs => ∃ v vs', vs = v :: vs' ∧ Rep g p v ∧ RepL g r vs'
end

mutual
theorem Rep.mono {g g' : Gh} (hg : ∀ b o, g b = some o → g' b = some o) : ∀ {p : PV} {v : Value}, Rep g p v → Rep g' p v
  | .none, _, h => by simpa only [Rep] using h
  | .bool _, _, h => by simpa only [Rep] using h
  | .int _, _, h => by simpa only [Rep] using h
  | .str _, _, h => by simpa only [Rep] using h
  | .ref _, _, h => by simpa only [Rep] using h
  | .rng _, _, h => by
    simp only [Rep] at h ⊢
    obtain ⟨a, t₁, t₂, t₃, e, h1⟩ := h
    exact ⟨a, t₁, t₂, t₃, e, hg _ _ h1⟩
  | .list l, _, h => by
    simp only [Rep] at h ⊢
    obtain ⟨a, o, n, items, e, h1, h2, h3, h4⟩ := h
    exact ⟨a, o, n, items, e, hg _ _ h1, h2, h3, RepL.mono hg h4⟩
  | .tup l, _, h => by
    simp only [Rep] at h ⊢
    obtain ⟨a, o, n, items, e, h1, h2, h3, h4⟩ := h
    exact ⟨a, o, n, items, e, hg _ _ h1, h2, h3, RepL.mono hg h4⟩
theorem RepL.mono {g g' : Gh} (hg : ∀ b o, g b = some o → g' b = some o) : ∀ {l : List PV} {vs : List Value}, RepL g l vs → RepL g' l vs
  | [], _, h => by simpa only [RepL] using h
  | p :: r, _, h => by
    simp only [RepL] at h ⊢
    obtain ⟨v, vs', e, h1, h2⟩ := h
    exact ⟨v, vs', e, Rep.mono hg h1, RepL.mono hg h2⟩
end

theorem RepL.length {g : Gh} : ∀ {l : List PV} {vs : List Value}, RepL g l vs → vs.length = l.length
  | [], _, h => by simp only [RepL] at h; subst h; rfl
  | p :: r, _, h => by
    simp only [RepL] at h
    obtain ⟨v, vs', rfl, _, h2⟩ := h
    simp [RepL.length h2]
theorem RepL.get {g : Gh} : ∀ {l : List PV} {vs : List Value} {i : Nat} {p : PV}, RepL g l vs → l[i]? = some p → ∃ v, vs[i]? = some v ∧ Rep g p v
  | [], _, _, _, _, e => by simp at e
  | q :: r, _, 0, p, h, e => by
    simp only [RepL] at h
    obtain ⟨v, vs', rfl, h1, _⟩ := h
    simp at e; subst e
    exact ⟨v, rfl, h1⟩
  | q :: r, _, i + 1, p, h, e => by
    simp only [RepL] at h
    obtain ⟨v, vs', rfl, _, h2⟩ := h
    simp at e
    obtain ⟨u, hu, hr⟩ := RepL.get h2 e
    exact ⟨u, by simpa using hu, hr⟩
theorem RepL.app {g : Gh} : ∀ {l l' : List PV} {vs vs' : List Value}, RepL g l vs → RepL g l' vs' → RepL g (l ++ l') (vs ++ vs')
  | [], _, _, _, h, h' => by simp only [RepL] at h; subst h; exact h'
  | p :: r, _, _, _, h, h' => by
    simp only [RepL] at h
    obtain ⟨v, vs', rfl, h1, h2⟩ := h
    simp only [List.cons_append, RepL]
    exact ⟨v, _, rfl, h1, RepL.app h2 h'⟩
theorem RepL.one {g : Gh} {p : PV} {v : Value} (h : Rep g p v) : RepL g [p] [v] := by
  simp only [RepL]
  exact ⟨v, [], rfl, h, rfl⟩
theorem RepL.take {g : Gh} : ∀ {l : List PV} {vs : List Value} (n : Nat), RepL g l vs → RepL g (l.take n) (vs.take n)
  | _, _, 0, _ => by simp [RepL]
  | [], _, n + 1, h => by simp only [RepL] at h; subst h; simp [RepL]
  | p :: r, _, n + 1, h => by
    simp only [RepL] at h
    obtain ⟨v, vs', rfl, h1, h2⟩ := h
    simp only [List.take_succ_cons, RepL]
    exact ⟨v, _, rfl, h1, RepL.take n h2⟩
theorem RepL.rev {g : Gh} : ∀ {l : List PV} {vs : List Value}, RepL g l vs → RepL g l.reverse vs.reverse
  | [], _, h => by simp only [RepL] at h; subst h; simp [RepL]
  | p :: r, _, h => by
    simp only [RepL] at h
    obtain ⟨v, vs', rfl, h1, h2⟩ := h
    rw [List.reverse_cons, List.reverse_cons]
    exact (RepL.rev h2).app (RepL.one h1)

/-- objects stay; a dict's object (a frame's) may change in its slots alone -/
noncomputable def Soft (h h' : Heap) : Prop := ∀ b o, h.get? b = some o → ∃ o', h'.get? b = some o' ∧ o'.data = o.data ∧ ((∀ es ep, o.data ≠ .dict es ep) → o' = o)
theorem Soft.of_ext {h h' : Heap} (e : ∀ b o, h.get? b = some o → h'.get? b = some o) : Soft h h' := fun b o x => ⟨o, e b o x, rfl, fun _ => rfl⟩
theorem Soft.refl (h : Heap) : Soft h h := Soft.of_ext fun _ _ e => e
theorem Soft.trans {h h' h'' : Heap} (a : Soft h h') (b : Soft h' h'') : Soft h h'' := fun x o e => by
  obtain ⟨o', e1, d1, k1⟩ := a x o e
  obtain ⟨o'', e2, d2, k2⟩ := b x o' e1
  exact ⟨o'', e2, d2.trans d1, fun hn => by
    have := k1 hn; subst this
    exact k2 hn⟩
theorem Soft.then {H h h' : Heap} (a : Soft H h) (up : ∀ b o, (∃ o', H.get? b = some o') → h.get? b = some o → h'.get? b = some o) : Soft H h' := fun b o e => by
  obtain ⟨o', e1, d, k⟩ := a b o e
  exact ⟨o', up b o' ⟨o, e⟩ e1, d, k⟩
theorem Soft.ex {h h' : Heap} (a : Soft h h') {b : Addr} (e : ∃ o, h.get? b = some o) : ∃ o, h'.get? b = some o := let ⟨o, x⟩ := e; let ⟨o', y, _⟩ := a b o x; ⟨o', y⟩
theorem Soft.none {h h' : Heap} (a : Soft h h') {b : Addr} (e : h'.get? b = none) : h.get? b = none := by
  cases q : h.get? b with
  | none => rfl
  | some o => obtain ⟨o', z⟩ := a.ex ⟨o, q⟩; rw [e] at z; cases z
theorem Soft.keep {h h' : Heap} (a : Soft h h') {b : Addr} {o : Obj} (e : h.get? b = some o) (hn : ∀ es ep, o.data ≠ .dict es ep) : h'.get? b = some o := by
  obtain ⟨o', x, _, k⟩ := a b o e
  rw [k hn] at x; exact x
theorem Soft.fields {h h' : Heap} (a : Soft h h') {b : Addr} {o : Obj} {vs : Array Value} (e : h.get? b = some o) (hf : o.data = .fields vs) : h'.get? b = some o := a.keep e fun es ep z => by rw [hf] at z; cases z
theorem Soft.cellAt {h h' : Heap} (a : Soft h h') {b : Addr} {o : Obj} {v : Option Value} (e : h.get? b = some o) (hf : o.data = .cell v) : h'.get? b = some o := a.keep e fun es ep z => by rw [hf] at z; cases z
theorem Soft.isCell {h h' : Heap} (a : Soft h h') {c : Addr} {v : Option Value} (x : h.IsCell c v) : h'.IsCell c v := let ⟨o, e, d⟩ := x; ⟨o, a.cellAt e d, d⟩
theorem Soft.ns {h h' : Heap} (a : Soft h h') {c : Addr} {m : Str → Option Value} (x : h.Ns c m) : h'.Ns c m := by
  obtain ⟨o, es, ep, e1, e2, e3⟩ := x
  obtain ⟨o', y, d, _⟩ := a c o e1
  exact ⟨o', es, ep, y, d.trans e2, e3⟩
theorem Soft.plain {h h' : Heap} (a : Soft h h') {c : Addr} {items : Array Value} (x : h.PlainList c items) : h'.PlainList c items := by
  obtain ⟨k, e⟩ := x
  exact ⟨k, a.keep e fun es ep z => nomatch z⟩

/-- what a read-only piece of work does to the heap and the ghost -/
structure Step (g g' : Gh) (h h' : Heap) : Prop where
  ext : Soft h h'
  grow : ∀ b o, g b = some o → g' b = some o
  new : ∀ b o, g' b = some o → g b = some o ∨ h.get? b = none
  sub : ∀ b o, g' b = some o → h'.get? b = some o
noncomputable def Sub (g : Gh) (h : Heap) : Prop := ∀ b o, g b = some o → h.get? b = some o
theorem Step.refl {g : Gh} {h : Heap} (s : Sub g h) : Step g g h h := ⟨Soft.refl h, fun _ _ e => e, fun _ _ e => .inl e, s⟩
theorem Step.trans {g g' g'' : Gh} {h h' h'' : Heap} (a : Step g g' h h') (b : Step g' g'' h' h'') : Step g g'' h h'' :=
  ⟨a.ext.trans b.ext, fun x o e => b.grow x o (a.grow x o e), fun x o e => (b.new x o e).elim (a.new x o) fun q => .inr (a.ext.none q), b.sub⟩
theorem Step.of_ext {g : Gh} {h h' : Heap} (s : Sub g h) (e : ∀ b o, h.get? b = some o → h'.get? b = some o) : Step g g h h' := ⟨Soft.of_ext e, fun _ _ e => e, fun _ _ e => .inl e, fun b o x => e b o (s b o x)⟩
theorem Step.alloc {g : Gh} {h : Heap} (s : Sub g h) (o : Obj) (hf : o.isFreed = false) : Step g (fun b => if b = h.objs.size then some o else g b) h (h.push o) where
  ext := Soft.of_ext fun b o' e => Heap.get?_push_of_some _ e
  grow := fun b o' e => by
    have : b ≠ h.objs.size := Nat.ne_of_lt (Heap.lt_size (s b o' e))
    simp [this, e]
  new := fun b o' e => by
    by_cases hb : b = h.objs.size
    · subst hb
      right
      cases q : h.get? h.objs.size with
      | none => rfl
      | some o'' => exact absurd (Heap.lt_size q) (Nat.lt_irrefl _)
    · simp only [hb, if_false] at e; exact .inl e
  sub := fun b o' e => by
    by_cases hb : b = h.objs.size
    · subst hb; simp only [if_true] at e; cases e; exact Heap.get?_push_size _ hf
    · simp only [hb, if_false] at e; exact Heap.get?_push_of_some _ (s b o' e)
theorem Step.noNew {g g' : Gh} {h h' : Heap} {b : Addr} (st : Step g g' h h') (e1 : g b = none) (e2 : ∃ o, h.get? b = some o) : g' b = none := by
  cases hb : g' b with
  | none => rfl
  | some o =>
    rcases st.new b o hb with z | z
    · rw [e1] at z; cases z
    · obtain ⟨o', ho'⟩ := e2; rw [ho'] at z; cases z

/-- t gives v, whatever is asked behind it -/
noncomputable def Y (M : Model) (A : Around) (t : Sem Value) (g : Gh) (s : Shared) (v : PV) : Prop :=
  ∀ (Q E : Value → Shared → Prop), (∀ pv h' tk g', Step g g' s.heap h' → Rep g' v pv → Q pv { s with heap := h', toks := tk }) → wpAny M A t Q E s
noncomputable def YL (M : Model) (A : Around) (t : Sem (List Value)) (g : Gh) (s : Shared) (l : List PV) : Prop :=
  ∀ (Q : List Value → Shared → Prop) (E : Value → Shared → Prop), (∀ vs h' tk g', Step g g' s.heap h' → RepL g' l vs → Q vs { s with heap := h', toks := tk }) → wpAny M A t Q E s
noncomputable def YB (M : Model) (A : Around) (t : Sem Bool) (g : Gh) (s : Shared) (b : Bool) : Prop :=
  ∀ (Q : Bool → Shared → Prop) (E : Value → Shared → Prop), (∀ h' tk g', Step g g' s.heap h' → Q b { s with heap := h', toks := tk }) → wpAny M A t Q E s

end Mine
end
section
open PySem PySem.W PyProof.Rows PySem.Calls
namespace Mine

noncomputable abbrev prog : Program := PySem.Challenge.pw_oy0153_01
noncomputable abbrev MD (w : World) : Model := model prog w

/-- what stands at the top when the call begins: names and what they hold -/
structure Wd (GL : Str → Option Value) (base : Heap) : Prop where
  load : ∀ (M : Model) (A : Around) (E : Value → Shared → Prop) (Q : Value → Shared → Prop) (s : Shared) (env : Env) (x : Str) (v : Value), GL x = some v → base.StaysIn s.heap → env.globals = mainGlobals → env.builtins = builtinsNs → Q v s → wpAny M A (loadGlobal env x) Q E s
  nolimit : base.NoLimit

/-- the frames above: dicts, and none of the ghost -/
noncomputable def FrOk (base : Heap) (g : Gh) (h : Heap) (l : List Env) : Prop := h.FunFrames base l ∧ ∀ env ∈ l, ∃ L o es ep, env.frame = some L ∧ h.get? L = some o ∧ o.data = .dict es ep ∧ g L = none
theorem FrOk.upd {base : Heap} {g g' : Gh} {h h' : Heap} {l : List Env} (k : FrOk base g h l) (hd : ∀ b o es ep, h.get? b = some o → o.data = .dict es ep → ∃ o' es' ep', h'.get? b = some o' ∧ o'.data = .dict es' ep') (hg : ∀ b, g b = none → (∃ o, h.get? b = some o) → g' b = none) : FrOk base g' h' l := by
  refine ⟨?_, fun env he => ?_⟩
  · obtain ⟨k1, k2⟩ := k
    induction l with
    | nil => trivial
    | cons env r ih =>
      obtain ⟨q1, ⟨L, o, q2, q3, q4, q5⟩, q6⟩ := k1
      obtain ⟨L', o', es, ep, p1, p2, p3, p4⟩ := k2 env List.mem_cons_self
      rw [q2] at p1; cases p1
      obtain ⟨o'', es', ep', r1, r2⟩ := hd L o' es ep p2 p3
      exact ⟨q1, ⟨L, o'', q2, q3, r1, fun vs z => by rw [r2] at z; cases z⟩, ih q6 fun e he => k2 e (List.mem_cons_of_mem _ he)⟩
  · obtain ⟨L, o, es, ep, p1, p2, p3, p4⟩ := k.2 env he
    obtain ⟨o', es', ep', r1, r2⟩ := hd L o es ep p2 p3
    exact ⟨L, o', es', ep', p1, r1, r2, hg L p4 ⟨o, p2⟩⟩
theorem FrOk.step {base : Heap} {g g' : Gh} {h h' : Heap} {l : List Env} (k : FrOk base g h l) (s : Step g g' h h') : FrOk base g' h' l :=
  k.upd (fun b o es ep e d => let ⟨o', e', d', _⟩ := s.ext b o e; ⟨o', es, ep, e', d'.trans d⟩) fun b e x => s.noNew e x

/-- the state as a piece of work finds it -/
structure Ok (base : Heap) (n : Nat) (A : Around) (g : Gh) (h : Heap) : Prop where
  sub : Sub g h
  gb : ∀ b o, base.get? b = some o → g b = some o
  handled : A.handled = none
  depth : A.depth + n + 150 < recursionLimit
  units : A.units + 10 * n + 50 < cLine
  frames : ∃ outer, A.frames = some outer ∧ FrOk base g h outer
theorem Ok.stays {base : Heap} {n : Nat} {A : Around} {g : Gh} {h : Heap} (k : Ok base n A g h) : base.StaysIn h := fun b o e => k.sub b o (k.gb b o e)
theorem Ok.step {base : Heap} {n : Nat} {A : Around} {g g' : Gh} {h h' : Heap} (k : Ok base n A g h) (s : Step g g' h h') : Ok base n A g' h' :=
  ⟨s.sub, fun b o e => s.grow b o (k.gb b o e), k.handled, k.depth, k.units, let ⟨l, a, b⟩ := k.frames; ⟨l, a, b.step s⟩⟩
theorem Ok.less {base : Heap} {n m : Nat} {A : Around} {g : Gh} {h : Heap} (k : Ok base n A g h) (hm : m ≤ n) : Ok base m A g h :=
  ⟨k.sub, k.gb, k.handled, by have := k.depth; omega, by have := k.units; omega, k.frames⟩

/-- a name holds a value -/
noncomputable def Held (h : Heap) (env : Env) (x : Str) (v : Value) : Prop :=
  (env.kindOf x = some .local ∧ ∃ m, h.Ns env.locals m ∧ m x = some v) ∨ (env.kindOf x = some .cell ∧ ∃ c o, env.cells.lookup x = some c ∧ h.get? c = some o ∧ o.data = .cell (some v))
theorem Held.ext {h h' : Heap} {env : Env} {x : Str} {v : Value} (k : Held h env x v) (e : Soft h h') : Held h' env x v :=
  k.imp (fun ⟨a, m, b, c⟩ => ⟨a, m, e.ns b, c⟩) fun ⟨a, c, o, b, d, f⟩ => ⟨a, c, o, b, e.cellAt d f, f⟩

noncomputable abbrev Rho := List (Str × PV)
structure EnvOk (env : Env) : Prop where
  kind : env.scope.kind = .function
  globals : env.globals = mainGlobals
  builtins : env.builtins = builtinsNs
structure Good (base : Heap) (n : Nat) (A : Around) (env : Env) (g : Gh) (ρ : Rho) (h : Heap) : Prop where
  ok : Ok base n A g h
  envok : EnvOk env
  names : ∀ x v, ρ.lookup x = some v → ∃ pv, Held h env x pv ∧ Rep g v pv
theorem Good.step {base : Heap} {n : Nat} {A : Around} {env : Env} {g g' : Gh} {ρ : Rho} {h h' : Heap} (k : Good base n A env g ρ h) (s : Step g g' h h') : Good base n A env g' ρ h' :=
  ⟨k.ok.step s, k.envok, fun x v e => let ⟨pv, a, b⟩ := k.names x v e; ⟨pv, a.ext s.ext, b.mono s.grow⟩⟩

section
variable (w : World) (base : Heap) (n : Nat)
/-- e gives v in a block of scope sc whose names hold ρ -/
noncomputable def EV (sc : Scope) (ρ : Rho) (e : Expr) (v : PV) : Prop :=
  ∀ (A : Around) (env : Env) (g : Gh) (s : Shared), env.scope = sc → Good base n A env g ρ s.heap → Y (MD w) A (eval e env) g s v
noncomputable def EVs (sc : Scope) (ρ : Rho) (es : List Expr) (vs : List PV) : Prop :=
  ∀ (A : Around) (env : Env) (g : Gh) (s : Shared) (pos : Pos), env.scope = sc → Good base n A env g ρ s.heap → YL (MD w) A (spliced (backTo pos (starEach es env))) g s vs
noncomputable def TV (sc : Scope) (ρ : Rho) (e : Expr) (b : Bool) : Prop :=
  ∀ (A : Around) (env : Env) (g : Gh) (s : Shared), env.scope = sc → Good base n A env g ρ s.heap → YB (MD w) A (isTrue e env (eval e env)) g s b
/-- a primitive of one, two values -/
noncomputable def P1 (f : Value → Sem Value) (a r : PV) : Prop := ∀ (A : Around) (g : Gh) (s : Shared) (x : Value), Ok base n A g s.heap → Rep g a x → Y (MD w) A (f x) g s r
noncomputable def P2 (f : Value → Value → Sem Value) (a b r : PV) : Prop := ∀ (A : Around) (g : Gh) (s : Shared) (x y : Value), Ok base n A g s.heap → Rep g a x → Rep g b y → Y (MD w) A (f x y) g s r
noncomputable def PB (a : PV) (b : Bool) : Prop := ∀ (A : Around) (g : Gh) (s : Shared) (x : Value), Ok base n A g s.heap → Rep g a x → YB (MD w) A (truthy x) g s b
/-- a call -/
noncomputable def CON (f : Value) (as : List PV) (r : PV) : Prop := ∀ (A : Around) (g : Gh) (s : Shared) (xs : List Value), Ok base n A g s.heap → RepL g as xs → Y (MD w) A (call f xs) g s r
end

section
variable {w : World} {base : Heap} {n : Nat} {sc : Scope} {ρ : Rho} {GL : Str → Option Value}

theorem EV.int {i : Int} {k : Nat} {pos : Pos} : EV w base n sc ρ (.Constant (.int i) k pos) (.int i) :=
  fun A env g s _ G Q E h => wpAny_Constant_int (h _ s.heap _ g (Step.refl G.ok.sub) (by simp only [Rep]; exact ⟨_, rfl⟩))
theorem EV.str {x : Str} {k : Nat} {pos : Pos} : EV w base n sc ρ (.Constant (.str x) k pos) (.str x) :=
  fun A env g s _ G Q E h => wpAny_Constant_str (h _ s.heap _ g (Step.refl G.ok.sub) (by simp only [Rep]; exact ⟨_, rfl⟩))
theorem EV.none {k : Nat} {pos : Pos} : EV w base n sc ρ (.Constant .none k pos) .none :=
  fun A env g s _ G Q E h => wpAny_Constant_none (h _ s.heap s.toks g (Step.refl G.ok.sub) (by simp only [Rep]))
theorem EV.bool {b : Bool} {k : Nat} {pos : Pos} : EV w base n sc ρ (.Constant (.bool b) k pos) (.bool b) :=
  fun A env g s _ G Q E h => wpAny_Constant_bool (h _ s.heap s.toks g (Step.refl G.ok.sub) (by simp only [Rep]))

theorem loadCell {M : Model} {A : Around} {E : Value → Shared → Prop} {s : Shared} {env : Env} {x : Str} {c : Addr} {o : Obj} {v : Value} {Q : Value → Shared → Prop} (hk : env.scope.kind = .function) (hx : env.kindOf x = some .cell)
    (hc : env.cells.lookup x = some c) (ho : s.heap.get? c = some o) (hd : o.data = .cell (some v)) (h : Q v s) : wpAny M A (loadName env x) Q E s := by
  unfold loadName
  simp only [Env.blockKind, hk, hx, ScopeKind.isAnnotationScope, Bool.false_and, Bool.false_eq_true, if_false]
  refine wpAny_bind ?_
  unfold cellOf
  rw [hc]
  refine wpAny_pure ?_
  unfold cellGet
  refine wpAny_bind (wpAny_bind (wpAny_load ho ?_))
  rw [hd]
  exact wpAny_pure (wpAny_pure h)

theorem Held.load {M : Model} {A : Around} {E : Value → Shared → Prop} {s : Shared} {env : Env} {x : Str} {v : Value} {Q : Value → Shared → Prop} (k : Held s.heap env x v) (hk : env.scope.kind = .function) (h : Q v s) : wpAny M A (loadName env x) Q E s := by
  rcases k with ⟨a, m, b, c⟩ | ⟨a, c, o, b, d, f⟩
  · exact wpAny_loadName_local hk a b c h
  · exact loadCell hk a b d f h

theorem EV.name {x : Str} {pos : Pos} {v : PV} (h : ρ.lookup x = some v) (hd : (x == ("__debug__" : Str)) = false := by decide) : EV w base n sc ρ (.Name x pos) v :=
  fun A env g s _ G Q E hq => by
    obtain ⟨pv, a, b⟩ := G.names x v h
    exact wpAny_Name (a.load G.envok.kind (hq _ s.heap s.toks g (Step.refl G.ok.sub) b)) hd
theorem EV.glob (W : Wd GL base) {x : Str} {pos : Pos} {v : Value} (h : GL x = some v) (hx : sc.names.lookup x = some .globalImplicit) (hd : (x == ("__debug__" : Str)) = false := by decide) : EV w base n sc ρ (.Name x pos) (.ref v) :=
  fun A env g s hs G Q E hq => by
    subst hs
    exact Name_function_global G.envok.kind hx (W.load _ _ _ _ s env x v h G.ok.stays G.envok.globals G.envok.builtins (hq _ s.heap s.toks g (Step.refl G.ok.sub) (by simp only [Rep]))) hd
/-- a global whose value is data -/
theorem EV.globv (W : Wd GL base) {x : Str} {pos : Pos} {v : Value} {p : PV} (h : GL x = some v) (hx : sc.names.lookup x = some .globalImplicit) (hr : Rep base.get? p v) (hd : (x == ("__debug__" : Str)) = false := by decide) : EV w base n sc ρ (.Name x pos) p :=
  fun A env g s hs G Q E hq => by
    subst hs
    exact Name_function_global G.envok.kind hx (W.load _ _ _ _ s env x v h G.ok.stays G.envok.globals G.envok.builtins (hq _ s.heap s.toks g (Step.refl G.ok.sub) (hr.mono G.ok.gb))) hd

theorem EV.binop {l r : Expr} {op : Operator} {pos : Pos} {a b v : PV} (hl : EV w base n sc ρ l a) (hr : EV w base n sc ρ r b) (hp : P2 w base n (binaryOp op) a b v) : EV w base n sc ρ (.BinOp l op r pos) v :=
  fun A env g s hs G Q E hq => wpAny_BinOp (hl A env g s hs G _ _ fun x h₁ tk₁ g₁ st₁ rx =>
    hr A env g₁ _ hs (G.step st₁) _ _ fun y h₂ tk₂ g₂ st₂ ry => hp A g₂ _ x y ((G.step st₁).step st₂).ok (rx.mono st₂.grow) ry _ _ fun z h₃ tk₃ g₃ st₃ rz =>
      hq z h₃ tk₃ g₃ ((st₁.trans st₂).trans st₃) rz)
theorem EV.cmp {l r : Expr} {op : CmpOp} {pos : Pos} {a b v : PV} (hl : EV w base n sc ρ l a) (hr : EV w base n sc ρ r b) (hp : P2 w base n (compareOp op) a b v) (hm : behindInMarks op r = false := by with_unfolding_all rfl) : EV w base n sc ρ (.Compare l [op] [r] pos) v :=
  fun A env g s hs G Q E hq => wpAny_Compare1 (hl A env g s hs G _ _ fun x h₁ tk₁ g₁ st₁ rx =>
    hr A env g₁ _ hs (G.step st₁) _ _ fun y h₂ tk₂ g₂ st₂ ry => hp A g₂ _ x y ((G.step st₁).step st₂).ok (rx.mono st₂.grow) ry _ _ fun z h₃ tk₃ g₃ st₃ rz =>
      hq z h₃ tk₃ g₃ ((st₁.trans st₂).trans st₃) rz) hm
theorem EV.unary {x : Expr} {op : UnaryOp} {pos : Pos} {a v : PV} (hl : EV w base n sc ρ x a) (hp : P1 w base n (unaryOp op) a v) : EV w base n sc ρ (.UnaryOp op x pos) v :=
  fun A env g s hs G Q E hq => wpAny_UnaryOp (hl A env g s hs G _ _ fun x h₁ tk₁ g₁ st₁ rx =>
    hp A g₁ _ x (G.step st₁).ok rx _ _ fun z h₃ tk₃ g₃ st₃ rz => hq z h₃ tk₃ g₃ (st₁.trans st₃) rz)

theorem EVs.nil : EVs w base n sc ρ [] [] := fun A env g s pos hs G Q E hq => spliced_none (hq [] s.heap s.toks g (Step.refl G.ok.sub) (by simp only [RepL]))
noncomputable def plainE : Expr → Bool
  | .Starred .. => false
  | _ => true
theorem star_cons {e : Expr} {es : List Expr} {env : Env} (h : plainE e = true) : starEach (e :: es) env = (false, eval e env) :: starEach es env := by
  cases e <;> first | rfl | cases h
theorem EVs.cons {e : Expr} {es : List Expr} {v : PV} {vs : List PV} (h : EV w base n sc ρ e v) (hr : EVs w base n sc ρ es vs) (he : plainE e = true := by rfl) : EVs w base n sc ρ (e :: es) (v :: vs) :=
  fun A env g s pos hs G Q E hq => spliced_more (h A env g s hs G _ _ fun x h₁ tk₁ g₁ st₁ rx => hr A env g₁ _ pos hs (G.step st₁) _ _ fun ys h₂ tk₂ g₂ st₂ ry =>
    hq (x :: ys) h₂ tk₂ g₂ (st₁.trans st₂) (by simp only [RepL]; exact ⟨x, ys, rfl, rx.mono st₂.grow, ry⟩)) (star_cons he)

theorem EV.list {es : List Expr} {vs : List PV} {pos : Pos} (h : EVs w base n sc ρ es vs) (hz : Nat.ble vs.length 64 = true := by rfl) : EV w base n sc ρ (.List es pos) (.list vs) :=
  fun A env g s hs G Q E hq => wpAny_List_spliced (h A env g s pos hs G _ _ fun xs h₁ tk₁ g₁ st₁ rx => ⟨by rw [rx.length]; exact Nat.le_trans (Nat.le_of_ble_eq_true hz) (by decide), by
    have := Step.alloc st₁.sub { cls := .type "list", data := .seq xs.toArray } rfl
    exact hq _ _ tk₁ _ (st₁.trans this) (by simp only [Rep]; exact ⟨_, { cls := .type "list", data := .seq xs.toArray }, 0, xs.toArray, rfl, if_pos rfl, rfl, rfl, rx.mono this.grow⟩)⟩)
theorem EV.tup {es : List Expr} {vs : List PV} {k : Nat} {pos : Pos} (h : EVs w base n sc ρ es vs) (hz : Nat.ble vs.length 64 = true := by rfl) : EV w base n sc ρ (.Tuple es k pos) (.tup vs) :=
  fun A env g s hs G Q E hq => wpAny_Tuple_spliced (h A env g s pos hs G _ _ fun xs h₁ tk₁ g₁ st₁ rx => ⟨by rw [rx.length]; exact Nat.le_trans (Nat.le_of_ble_eq_true hz) (by decide), by
    have := Step.alloc st₁.sub { cls := .type "tuple", data := .seq xs.toArray } rfl
    exact hq _ _ tk₁ _ (st₁.trans this) (by simp only [Rep]; exact ⟨_, { cls := .type "tuple", data := .seq xs.toArray }, 0, xs.toArray, rfl, if_pos rfl, rfl, rfl, rx.mono this.grow⟩)⟩)
end
end Mine
end
section
open PySem PySem.W PyProof.Rows PySem.Calls
namespace Mine
section
variable {w : World} {base : Heap} {n : Nat} {GL : Str → Option Value}

theorem repI {g : Gh} {i : Int} {t : Tok} : Rep g (.int i) (.int i t) := by simp only [Rep]; exact ⟨_, rfl⟩
theorem repS {g : Gh} {x : Str} {t : Tok} : Rep g (.str x) (.str x t) := by simp only [Rep]; exact ⟨_, rfl⟩
theorem repB {g : Gh} {b : Bool} : Rep g (.bool b) (.bool b) := by simp only [Rep]
theorem repN {g : Gh} : Rep g .none .none := by simp only [Rep]
theorem repR {g : Gh} {v : Value} : Rep g (.ref v) v := by simp only [Rep]
theorem unI {g : Gh} {i : Int} {v : Value} (h : Rep g (.int i) v) : ∃ t, v = .int i t := by simpa only [Rep] using h
theorem unS {g : Gh} {x : Str} {v : Value} (h : Rep g (.str x) v) : ∃ t, v = .str x t := by simpa only [Rep] using h
theorem unB {g : Gh} {b : Bool} {v : Value} (h : Rep g (.bool b) v) : v = .bool b := by simpa only [Rep] using h
theorem unN {g : Gh} {v : Value} (h : Rep g .none v) : v = .none := by simpa only [Rep] using h
theorem unR {g : Gh} {r v : Value} (h : Rep g (.ref r) v) : v = r := by simpa only [Rep] using h

/-- two ints in, one int out, the heap as it is -/
theorem p2_ii {f : Value → Value → Sem Value} {a b r : Int} (h : ∀ (A : Around) (g : Gh) (s : Shared) (t u : Tok) (Q E : Value → Shared → Prop), Ok base n A g s.heap → (∀ t' tk, Q (.int r t') { s with toks := tk }) → wpAny (MD w) A (f (.int a t) (.int b u)) Q E s) :
    P2 w base n f (.int a) (.int b) (.int r) := fun A g s x y ok rx ry Q E hq => by
  obtain ⟨t, rfl⟩ := unI rx
  obtain ⟨u, rfl⟩ := unI ry
  exact h A g s t u Q E ok fun t' tk => hq _ s.heap tk g (Step.refl ok.sub) repI
theorem p2_iib {f : Value → Value → Sem Value} {a b : Int} {r : Bool} (h : ∀ (A : Around) (s : Shared) (t u : Tok) (Q E : Value → Shared → Prop), Q (.bool r) s → wpAny (MD w) A (f (.int a t) (.int b u)) Q E s) :
    P2 w base n f (.int a) (.int b) (.bool r) := fun A g s x y ok rx ry Q E hq => by
  obtain ⟨t, rfl⟩ := unI rx
  obtain ⟨u, rfl⟩ := unI ry
  exact h A s t u Q E (hq _ s.heap s.toks g (Step.refl ok.sub) repB)
theorem p2_ssb {f : Value → Value → Sem Value} {a b : Str} {r : Bool} (h : ∀ (A : Around) (s : Shared) (t u : Tok) (Q E : Value → Shared → Prop), Q (.bool r) s → wpAny (MD w) A (f (.str a t) (.str b u)) Q E s) :
    P2 w base n f (.str a) (.str b) (.bool r) := fun A g s x y ok rx ry Q E hq => by
  obtain ⟨t, rfl⟩ := unS rx
  obtain ⟨u, rfl⟩ := unS ry
  exact h A s t u Q E (hq _ s.heap s.toks g (Step.refl ok.sub) repB)

theorem P2.add {a b : Int} : P2 w base n (binaryOp .Add) (.int a) (.int b) (.int (a + b)) := p2_ii fun A g s t u Q E ok h => add_int (h _ _)
theorem P2.sub {a b : Int} : P2 w base n (binaryOp .Sub) (.int a) (.int b) (.int (a - b)) := p2_ii fun A g s t u Q E ok h => sub_int (h _ _)
theorem P2.mul {a b : Int} (hm : Builtin.Int.intBits a ≤ 64 ∨ Builtin.Int.intBits b ≤ 64) : P2 w base n (binaryOp .Mult) (.int a) (.int b) (.int (a * b)) := p2_ii fun A g s t u Q E ok h => mul_int (h _ _) (hm.elim IntMulOk.of_left IntMulOk.of_right)
theorem P2.fdiv (W : Wd GL base) {a b : Int} (hb : b ≠ 0) (hs : b.natAbs < 1073741824 := by decide) : P2 w base n (binaryOp .FloorDiv) (.int a) (.int b) (.int (a.fdiv b)) :=
  p2_ii fun A g s t u Q E ok h => floordiv_int hb (h _ _) (.inl (PyProof.noPylong_small hs))
theorem P2.mod (W : Wd GL base) {a b : Int} (hb : b ≠ 0) : P2 w base n (binaryOp .Mod) (.int a) (.int b) (.int (a.fmod b)) := p2_ii fun A g s t u Q E ok h => mod_int hb (h _ _)
theorem P2.shr {a k : Int} (hk : 0 ≤ k) : P2 w base n (binaryOp .RShift) (.int a) (.int k) (.int (a.fdiv (2 ^ k.toNat))) := p2_ii fun A g s t u Q E ok h => rshift_int hk (h _ _)
theorem P2.band {a b : Int} : P2 w base n (binaryOp .BitAnd) (.int a) (.int b) (.int (Builtin.bitAnd a b)) := p2_ii fun A g s t u Q E ok h => and_int (h _ _)
theorem P2.eqi {a b : Int} : P2 w base n (compareOp .Eq) (.int a) (.int b) (.bool (a == b)) := p2_iib fun A s t u Q E h => eq_int h
theorem P2.nei {a b : Int} : P2 w base n (compareOp .NotEq) (.int a) (.int b) (.bool (a != b)) := p2_iib fun A s t u Q E h => ne_int h
theorem P2.lti {a b : Int} : P2 w base n (compareOp .Lt) (.int a) (.int b) (.bool (decide (a < b))) := p2_iib fun A s t u Q E h => lt_int h
theorem P2.gti {a b : Int} : P2 w base n (compareOp .Gt) (.int a) (.int b) (.bool (decide (b < a))) := p2_iib fun A s t u Q E h => gt_int h
theorem P2.gei {a b : Int} : P2 w base n (compareOp .GtE) (.int a) (.int b) (.bool (decide (b ≤ a))) := p2_iib fun A s t u Q E h => ge_int h
theorem P2.eqs {a b : Str} : P2 w base n (compareOp .Eq) (.str a) (.str b) (.bool (a == b)) := p2_ssb fun A s t u Q E h => eq_str h
theorem P2.nes {a b : Str} : P2 w base n (compareOp .NotEq) (.str a) (.str b) (.bool (a != b)) := p2_ssb fun A s t u Q E h => ne_str h
/-- y in x, both texts -/
noncomputable def inS (y x : Str) : Bool := !(Builtin.Str.occurrences x y 0 x.length 1).isEmpty
theorem P2.ins {y x : Str} : P2 w base n (compareOp .In) (.str y) (.str x) (.bool (inS y x)) := p2_ssb fun A s t u Q E h => in_str h
theorem P2.eqns {b : Str} : P2 w base n (compareOp .Eq) .none (.str b) (.bool false) := fun A g s x y ok rx ry Q E hq => by
  obtain rfl := unN rx
  obtain ⟨u, rfl⟩ := unS ry
  exact EqNone.eq_none_str (hq _ s.heap s.toks g (Step.refl ok.sub) repB)
theorem P2.adds {a b : Str} (hz : a.length + b.length ≤ sizeLine) : P2 w base n (binaryOp .Add) (.str a) (.str b) (.str (a ++ b)) := fun A g s x y ok rx ry Q E hq => by
  obtain ⟨t, rfl⟩ := unS rx
  obtain ⟨u, rfl⟩ := unS ry
  exact add_str (fun t' tk => hq _ s.heap tk g (Step.refl ok.sub) repS) hz
theorem P2.iadds {a b : Str} (hz : a.length + b.length ≤ sizeLine) : P2 w base n (inplaceOp .Add) (.str a) (.str b) (.str (a ++ b)) := fun A g s x y ok rx ry Q E hq => by
  obtain ⟨t, rfl⟩ := unS rx
  obtain ⟨u, rfl⟩ := unS ry
  exact iadd_str (fun t' tk => hq _ s.heap tk g (Step.refl ok.sub) repS) hz
theorem P2.iadd {a b : Int} : P2 w base n (inplaceOp .Add) (.int a) (.int b) (.int (a + b)) := p2_ii fun A g s t u Q E ok h => iadd_int (h _ _)
theorem P1.neg {a : Int} : P1 w base n (unaryOp .USub) (.int a) (.int (-a)) := fun A g s x ok rx Q E hq => by
  obtain ⟨t, rfl⟩ := unI rx
  exact neg_int (hq _ s.heap _ g (Step.refl ok.sub) repI)

theorem PB.bool {b : Bool} : PB w base n (.bool b) b := fun A g s x ok rx Q E hq => by
  obtain rfl := unB rx
  exact wpAny_truthy_bool (hq s.heap s.toks g (Step.refl ok.sub))
theorem PB.int {a : Int} : PB w base n (.int a) (a != 0) := fun A g s x ok rx Q E hq => by
  obtain ⟨t, rfl⟩ := unI rx
  exact P.truthy_int (hq s.heap s.toks g (Step.refl ok.sub))
theorem P1.not {a : PV} {b : Bool} (h : PB w base n a b) : P1 w base n (unaryOp .Not) a (.bool (!b)) := fun A g s x ok rx Q E hq =>
  not_of (h A g s x ok rx _ _ fun h' tk g' st => hq _ h' tk g' st repB)
end
end Mine
end
section
open PySem PySem.W PyProof.Rows PySem.Calls
namespace Mine
section
variable {w : World} {base : Heap} {n : Nat} {sc : Scope} {ρ : Rho} {GL : Str → Option Value}

theorem unL {g : Gh} {l : List PV} {v : Value} (h : Rep g (.list l) v) : ∃ a o n items, v = .ref a ∧ g a = some o ∧ o.cls = .type "list" ∧ o.data = .seq items n ∧ RepL g l items.toList := by simpa only [Rep] using h
theorem unT {g : Gh} {l : List PV} {v : Value} (h : Rep g (.tup l) v) : ∃ a o n items, v = .ref a ∧ g a = some o ∧ o.cls = .type "tuple" ∧ o.data = .seq items n ∧ RepL g l items.toList := by simpa only [Rep] using h
theorem RepL.cons {g : Gh} {p : PV} {l : List PV} {v : Value} {vs : List Value} (h : Rep g p v) (h' : RepL g l vs) : RepL g (p :: l) (v :: vs) := by simp only [RepL]; exact ⟨v, vs, rfl, h, h'⟩
theorem RepL.nil {g : Gh} : RepL g [] [] := by simp only [RepL]

/-- an item at a place -/
noncomputable def IX (w : World) (base : Heap) (n : Nat) (o i r : PV) : Prop := ∀ (A : Around) (g : Gh) (s : Shared) (x y : Value) (value slice : Expr), Ok base n A g s.heap → Rep g o x → Rep g i y →
  (∀ a b, subscripted slice false a b = operate [a, b] (getItem a b)) → Y (MD w) A (subscriptTail value slice x y) g s r
theorem EV.index {value slice : Expr} {pos : Pos} {o i r : PV} (ho : EV w base n sc ρ value o) (hi : EV w base n sc ρ slice i) (hx : IX w base n o i r) (hs : ∀ a b, subscripted slice false a b = operate [a, b] (getItem a b) := by intros; rfl) :
    EV w base n sc ρ (.Subscript value slice pos) r :=
  fun A env g s he G Q E hq => Subscript_ (ho A env g s he G _ _ fun x h₁ tk₁ g₁ st₁ rx => hi A env g₁ _ he (G.step st₁) _ _ fun y h₂ tk₂ g₂ st₂ ry =>
    hx A g₂ _ x y value slice ((G.step st₁).step st₂).ok (rx.mono st₂.grow) ry hs _ _ fun z h₃ tk₃ g₃ st₃ rz => hq z h₃ tk₃ g₃ ((st₁.trans st₂).trans st₃) rz)
theorem IX.list {l : List PV} {k : Int} {r : PV} (h0 : 0 ≤ k) (hk : k < 2 ^ 63) (hr : l[k.toNat]? = some r) : IX w base n (.list l) (.int k) r := fun A g s x y value slice ok rx ry hs Q E hq => by
  obtain ⟨a, o, m, items, rfl, h1, h2, h3, h4⟩ := unL rx
  obtain ⟨t, rfl⟩ := unI ry
  obtain ⟨v, hv, rv⟩ := h4.get hr
  have hl : s.heap.IsList a items := ⟨o, ok.sub _ _ h1, h2, m, h3⟩
  exact tail_any hl.typeIs slot_list_getitem.lookup (wpAny_getItem_list hl h0 hk (by simpa using hv) (hq v s.heap s.toks g (Step.refl ok.sub) rv)) (hs _ _)
theorem seqIdx {k : Int} {n : Nat} (h0 : 0 ≤ k) (h : k.toNat < n) : seqIndex? k n = some k.toNat := by
  unfold seqIndex?
  simp only [show ¬ k < 0 by omega, if_false]
  simp
  omega
theorem IX.tup {l : List PV} {k : Int} {r : PV} (h0 : 0 ≤ k) (hk : k < 2 ^ 63) (hr : l[k.toNat]? = some r) : IX w base n (.tup l) (.int k) r := fun A g s x y value slice ok rx ry hs Q E hq => by
  obtain ⟨a, o, m, items, rfl, h1, h2, h3, h4⟩ := unT rx
  obtain ⟨t, rfl⟩ := unI ry
  obtain ⟨v, hv, rv⟩ := h4.get hr
  have hl : IsTup s.heap a items := ⟨o, ok.sub _ _ h1, h2, m, h3⟩
  have hz : k.toNat < items.size := by
    have := (List.getElem?_eq_some_iff.mp hv).1
    simpa using this
  exact tail_any hl.typeIs slot_tuple_getitem.lookup (getItem_tuple hl (by omega) hk (j := k.toNat) (seqIdx h0 hz) (by simpa using hv) (hq v s.heap s.toks g (Step.refl ok.sub) rv)) (hs _ _)
theorem IX.str {x : Str} {k : Int} {c : Nat} (h0 : 0 ≤ k) (hk : k < 2 ^ 63) (hr : x.cps[k.toNat]? = some c) : IX w base n (.str x) (.int k) (.str ⟨#[c]⟩) := fun A g s x' y value slice ok rx ry hs Q E hq => by
  obtain ⟨t, rfl⟩ := unS rx
  obtain ⟨u, rfl⟩ := unI ry
  have hz : k.toNat < x.length := by
    obtain ⟨h, _⟩ := Array.getElem?_eq_some_iff.mp hr
    exact h
  exact tail_any (typeIs_str s x t) slot_str_getitem.lookup (getItem_str (by simp; omega) (by rw [seqIdx h0 hz]; exact hr) (hq _ s.heap _ g (Step.refl ok.sub) repS)) (hs _ _)

/-- the iterators that keep a tuple of their own -/
noncomputable def keepsTuple (T : String) : Bool := ["enumerate", "zip", "dict_itemiterator", "dict_reverseitemiterator", "odict_iterator", "itertools.zip_longest", "itertools.pairwise"].contains T
/-- an iterator's own objects -/
noncomputable def ItObj (h : Heap) (b : Addr) : Prop := ∃ o T vs, h.get? b = some o ∧ o.cls = .type T ∧ o.data = .fields vs ∧ keepsTuple T = false
/-- what a for goes through -/
noncomputable def IT (w : World) (p : PV) (items : List PV) : Prop := ∀ (A : Around) (g : Gh) (s : Shared) (x : Value) (Q E : Value → Shared → Prop), A.handled = none → Sub g s.heap → Rep g p x →
  (∀ I fp wr P St h', Walks prog w A I fp wr items.length P St → St 0 h' → (∀ b o, s.heap.get? b = some o → h'.get? b = some o) → (∀ b ∈ fp, b < h'.objs.size) → (∀ b ∈ wr, s.heap.get? b = none) → (∀ b ∈ fp, b ∈ wr ∨ ∃ o, g b = some o) →
    (∀ i v, P i v → ∃ q, items[i]? = some q ∧ Rep g q v) → (∀ i h, St i h → ∀ b ∈ wr, ItObj h b) → I ∈ wr → Q (.ref I) { s with heap := h' }) → wpAny (MD w) A (pyIter x) Q E s
theorem fresh_size (h : Heap) : h.get? h.objs.size = none := by
  cases q : h.get? h.objs.size with
  | none => rfl
  | some o => exact absurd (Heap.lt_size q) (Nat.lt_irrefl _)
theorem IT.list {l : List PV} : IT w (.list l) l := fun A g s x Q E hh hs rx hq => by
  obtain ⟨a, o, m, items, rfl, h1, h2, h3, h4⟩ := unL rx
  have hl : s.heap.IsList a items := ⟨o, hs _ _ h1, h2, m, h3⟩
  have hne : a ≠ s.heap.objs.size := Nat.ne_of_lt (Heap.lt_size (hs _ _ h1))
  have hn : items.size = l.length := by have := h4.length; simpa using this
  refine wpAny_pyIter_list hl (hq _ [s.heap.objs.size, a] [s.heap.objs.size] _ _ _ (hn ▸ Walks.list hh s.heap.objs.size a hne items) ⟨⟨_, Heap.get?_push_size _ rfl, rfl, rfl⟩, hl.push _⟩ (fun b o e => Heap.get?_push_of_some _ e) ?_ ?_ ?_ ?_ ?_ (by simp))
  · intro b hb
    rw [Heap.size_push]
    rcases List.mem_cons.mp hb with rfl | hb
    · exact Nat.lt_succ_self _
    · rw [List.mem_singleton.mp hb]; exact Nat.lt_succ_of_lt (Heap.lt_size (hs _ _ h1))
  · intro b hb; rw [List.mem_singleton.mp hb]; exact fresh_size _
  · intro b hb
    rcases List.mem_cons.mp hb with rfl | hb
    · exact .inl (by simp)
    · rw [List.mem_singleton.mp hb]; exact .inr ⟨o, h1⟩
  · intro i v hv
    have hi : i < l.length := by
      obtain ⟨h, _⟩ := Array.getElem?_eq_some_iff.mp hv
      omega
    obtain ⟨u, hu, ru⟩ := h4.get (List.getElem?_eq_getElem hi)
    have : items[i]? = some u := by simpa using hu
    rw [this] at hv; cases hv
    exact ⟨_, List.getElem?_eq_getElem hi, ru⟩
  · intro i h st b hb
    obtain ⟨o, ho, hc, hd⟩ := st.1
    rw [List.mem_singleton.mp hb]; exact ⟨o, _, _, ho, hc, hd, by decide⟩
theorem IT.tup {l : List PV} : IT w (.tup l) l := fun A g s x Q E hh hs rx hq => by
  obtain ⟨a, o, m, items, rfl, h1, h2, h3, h4⟩ := unT rx
  have hl : s.heap.IsTuple a items := ⟨o, hs _ _ h1, h2, m, h3⟩
  have hne : a ≠ s.heap.objs.size := Nat.ne_of_lt (Heap.lt_size (hs _ _ h1))
  have hn : items.size = l.length := by have := h4.length; simpa using this
  refine wpAny_pyIter_tuple hl (hq _ [s.heap.objs.size, a] [s.heap.objs.size] _ _ _ (hn ▸ Walks.tuple hh s.heap.objs.size a hne items) ⟨⟨_, Heap.get?_push_size _ rfl, rfl, rfl⟩, ⟨o, Heap.get?_push_of_some _ (hs _ _ h1), h2, m, h3⟩⟩ (fun b o e => Heap.get?_push_of_some _ e) ?_ ?_ ?_ ?_ ?_ (by simp))
  · intro b hb
    rw [Heap.size_push]
    rcases List.mem_cons.mp hb with rfl | hb
    · exact Nat.lt_succ_self _
    · rw [List.mem_singleton.mp hb]; exact Nat.lt_succ_of_lt (Heap.lt_size (hs _ _ h1))
  · intro b hb; rw [List.mem_singleton.mp hb]; exact fresh_size _
  · intro b hb
    rcases List.mem_cons.mp hb with rfl | hb
    · exact .inl (by simp)
    · rw [List.mem_singleton.mp hb]; exact .inr ⟨o, h1⟩
  · intro i v hv
    have hi : i < l.length := by
      obtain ⟨h, _⟩ := Array.getElem?_eq_some_iff.mp hv
      omega
    obtain ⟨u, hu, ru⟩ := h4.get (List.getElem?_eq_getElem hi)
    have : items[i]? = some u := by simpa using hu
    rw [this] at hv; cases hv
    exact ⟨_, List.getElem?_eq_getElem hi, ru⟩
  · intro i h st b hb
    obtain ⟨o, ho, hc, hd⟩ := st.1
    rw [List.mem_singleton.mp hb]; exact ⟨o, _, _, ho, hc, hd, by decide⟩
theorem IT.str {x : Str} : IT w (.str x) (x.cps.toList.map fun c => .str ⟨#[c]⟩) := fun A g s x' Q E hh hs rx hq => by
  obtain ⟨t, rfl⟩ := unS rx
  have hn : (x.cps.toList.map fun c => PV.str ⟨#[c]⟩).length = x.cps.size := by simp
  have fin : ∀ (T : String) (_ : keepsTuple T = false) (o : Obj) (W : Walks prog w A s.heap.objs.size [s.heap.objs.size] [s.heap.objs.size] x.cps.size (SignAt x) (fun i h => h.IsStrIter s.heap.objs.size T x t i)), (s.heap.push o).IsStrIter s.heap.objs.size T x t 0 → Q (.ref s.heap.objs.size) { s with heap := s.heap.push o } := fun T hT o W st => by
    refine hq _ [s.heap.objs.size] [s.heap.objs.size] (SignAt x) _ _ (hn ▸ W) st (fun b o e => Heap.get?_push_of_some _ e) ?_ ?_ ?_ ?_ ?_ (by simp)
    · intro b hb; rw [Heap.size_push, List.mem_singleton.mp hb]; exact Nat.lt_succ_self _
    · intro b hb; rw [List.mem_singleton.mp hb]; exact fresh_size _
    · intro b hb; exact .inl hb
    · rintro i v ⟨c, u, hc, rfl⟩
      exact ⟨.str ⟨#[c]⟩, by simp [hc], repS⟩
    · intro i h st b hb
      obtain ⟨o, ho, hc, hd⟩ := st
      rw [List.mem_singleton.mp hb]; exact ⟨o, _, _, ho, hc, hd, hT⟩
  cases ha : x.cps.all (· < 128)
  · exact wpAny_pyIter_wide ha (fin _ (by decide) _ (Walks.strWide hh _ x t) ⟨_, Heap.get?_push_size _ rfl, rfl, rfl⟩)
  · exact wpAny_pyIter_ascii ha (fin _ (by decide) _ (Walks.strAscii hh _ x t) ⟨_, Heap.get?_push_size _ rfl, rfl, rfl⟩)
theorem IT.rng {k : Nat} (hsm : Builtin.Range.small 0 k 1 = true := by decide) (hz : Builtin.Range.rangeSize 0 k 1 = (k : Int) := by decide) : IT w (.rng k) ((List.range k).map fun (i : Nat) => PV.int i) := fun A g s x Q E hh hs rx hq => by
  simp only [Rep] at rx
  obtain ⟨a, t₁, t₂, t₃, rfl, h1⟩ := rx
  have hr : IsRange s.heap a 0 k 1 t₁ t₂ t₃ := hs _ _ h1
  have hn : ((List.range k).map fun (i : Nat) => PV.int i).length = k := by simp
  refine wpAny_pyIter_range hr ?_ (hq _ [s.heap.objs.size] [s.heap.objs.size] _ _ _ (hn.symm ▸ (Walks.range hh s.heap.objs.size 0 1 k).bound) ?_ (fun b o e => Heap.get?_push_of_some _ e) ?_ ?_ ?_ ?_ ?_ (by simp))
  · exact hsm
  · show (s.heap.push _).get? s.heap.objs.size = some _
    rw [hz]
    exact (Heap.get?_push_size _ rfl).trans (by simp [rawInt])
  · intro b hb; rw [Heap.size_push, List.mem_singleton.mp hb]; exact Nat.lt_succ_self _
  · intro b hb; rw [List.mem_singleton.mp hb]; exact fresh_size _
  · intro b hb; exact .inl hb
  · rintro i v ⟨hi, t, rfl⟩
    rw [hn] at hi
    refine ⟨.int i, by simp [hi], ?_⟩
    have : (0 : Int) + i * 1 = i := by omega
    rw [this]; exact repI
  · intro i h st b hb
    rw [List.mem_singleton.mp hb]; exact ⟨_, _, _, st, rfl, rfl, by decide⟩
end
end Mine
end
section
open PySem PySem.W PyProof.Rows PySem.Calls
namespace Mine
section
variable {w : World} {base : Heap} {n : Nat} {sc : Scope} {ρ : Rho} {GL : Str → Option Value}

theorem TV.cmp {l r : Expr} {op : CmpOp} {pos : Pos} {a b v : PV} {c : Bool} (hl : EV w base n sc ρ l a) (hr : EV w base n sc ρ r b) (hp : P2 w base n (compareOp op) a b v) (hb : PB w base n v c) (hm : behindInMarks op r = false := by with_unfolding_all rfl) : TV w base n sc ρ (.Compare l [op] [r] pos) c :=
  fun A env g s hs G Q E hq => wpAny_isTrue_Compare1 (hl A env g s hs G _ _ fun x h₁ tk₁ g₁ st₁ rx =>
    hr A env g₁ _ hs (G.step st₁) _ _ fun y h₂ tk₂ g₂ st₂ ry => hp A g₂ _ x y ((G.step st₁).step st₂).ok (rx.mono st₂.grow) ry _ _ fun z h₃ tk₃ g₃ st₃ rz =>
      hb A g₃ _ z (((G.step st₁).step st₂).step st₃).ok rz _ _ fun h₄ tk₄ g₄ st₄ => hq h₄ tk₄ g₄ (((st₁.trans st₂).trans st₃).trans st₄)) hm
theorem TV.not {x : Expr} {pos : Pos} {b : Bool} (h : TV w base n sc ρ x b) : TV w base n sc ρ (.UnaryOp .Not x pos) (!b) :=
  fun A env g s hs G Q E hq => wpAny_isTrue_Not (h A env g s hs G _ _ fun h₁ tk₁ g₁ st₁ => hq h₁ tk₁ g₁ st₁)
theorem TV.val {e : Expr} {v : PV} {b : Bool} (h : EV w base n sc ρ e v) (hb : PB w base n v b) (he : ∀ env whole, isTrue e env whole = (do let v ← whole; standAt e.pos; holding [v] (truthy v)) := by intros; rfl) : TV w base n sc ρ e b :=
  fun A env g s hs G Q E hq => wpAny_isTrue_value (h A env g s hs G _ _ fun x h₁ tk₁ g₁ st₁ rx => hb A g₁ _ x (G.step st₁).ok rx _ _ fun h₂ tk₂ g₂ st₂ => hq h₂ tk₂ g₂ (st₁.trans st₂)) (he env _)
theorem TV.and {x y : Expr} {pos : Pos} {a b : Bool} (hx : TV w base n sc ρ x a) (hy : a = true → TV w base n sc ρ y b) : TV w base n sc ρ (.BoolOp .And [x, y] pos) (a && b) :=
  fun A env g s hs G Q E hq => wpAny_isTrue_BoolOp (wpAny_allTrue_And_cons (hx A env g s hs G _ _ fun h₁ tk₁ g₁ st₁ => by
    cases a with
    | false => exact hq h₁ tk₁ g₁ st₁
    | true => exact wpAny_allTrue_And_cons (hy rfl A env g₁ _ hs (G.step st₁) _ _ fun h₂ tk₂ g₂ st₂ => by
        cases b with
        | false => exact hq h₂ tk₂ g₂ (st₁.trans st₂)
        | true => exact wpAny_allTrue_And_nil (hq h₂ tk₂ g₂ (st₁.trans st₂)))))
theorem TV.or {x y : Expr} {pos : Pos} {a b : Bool} (hx : TV w base n sc ρ x a) (hy : a = false → TV w base n sc ρ y b) : TV w base n sc ρ (.BoolOp .Or [x, y] pos) (a || b) :=
  fun A env g s hs G Q E hq => wpAny_isTrue_BoolOp (wpAny_allTrue_Or_cons (hx A env g s hs G _ _ fun h₁ tk₁ g₁ st₁ => by
    cases a with
    | true => exact hq h₁ tk₁ g₁ st₁
    | false => exact wpAny_allTrue_Or_cons (hy rfl A env g₁ _ hs (G.step st₁) _ _ fun h₂ tk₂ g₂ st₂ => by
        cases b with
        | true => exact hq h₂ tk₂ g₂ (st₁.trans st₂)
        | false => exact wpAny_allTrue_Or_nil (hq h₂ tk₂ g₂ (st₁.trans st₂)))))
theorem EV.and {x y : Expr} {pos : Pos} {a b : Bool} (hx : EV w base n sc ρ x (.bool a)) (hy : a = true → EV w base n sc ρ y (.bool b)) : EV w base n sc ρ (.BoolOp .And [x, y] pos) (.bool (a && b)) :=
  fun A env g s hs G Q E hq => BoolOp_and (hx A env g s hs G _ _ fun v h₁ tk₁ g₁ st₁ rv => PB.bool (base := base) (n := n) A g₁ _ v (G.step st₁).ok rv _ _ fun h₂ tk₂ g₂ st₂ => by
    have st := st₁.trans st₂
    cases a with
    | false => exact hq v h₂ tk₂ g₂ st (rv.mono st₂.grow)
    | true => exact BoolOp_one (hy rfl A env g₂ _ hs (G.step st) _ _ fun z h₃ tk₃ g₃ st₃ rz => hq z h₃ tk₃ g₃ (st.trans st₃) rz))
theorem EV.or {x y : Expr} {pos : Pos} {a b : Bool} (hx : EV w base n sc ρ x (.bool a)) (hy : a = false → EV w base n sc ρ y (.bool b)) : EV w base n sc ρ (.BoolOp .Or [x, y] pos) (.bool (a || b)) :=
  fun A env g s hs G Q E hq => BoolOp_or (hx A env g s hs G _ _ fun v h₁ tk₁ g₁ st₁ rv => PB.bool (base := base) (n := n) A g₁ _ v (G.step st₁).ok rv _ _ fun h₂ tk₂ g₂ st₂ => by
    have st := st₁.trans st₂
    cases a with
    | true => exact hq v h₂ tk₂ g₂ st (rv.mono st₂.grow)
    | false => exact BoolOp_one (hy rfl A env g₂ _ hs (G.step st) _ _ fun z h₃ tk₃ g₃ st₃ rz => hq z h₃ tk₃ g₃ (st.trans st₃) rz))
theorem EV.not {x : Expr} {pos : Pos} {v : PV} {b : Bool} (h : EV w base n sc ρ x v) (hb : PB w base n v b) : EV w base n sc ρ (.UnaryOp .Not x pos) (.bool (!b)) := EV.unary h (P1.not hb)

/-- the callee is one that a call takes as it is -/
noncomputable def Calls (base : Heap) (f : Value) : Prop := ∀ (M : Model) (h : Heap), base.StaysIn h → ∃ k, (k = Keeper.frame ∨ k = Keeper.machine ∨ k = Keeper.boundFrame) ∧ Looks M h (keeperOf f) k
theorem Calls.builtin {id : String} : Calls base (.builtin id) := fun M h _ => ⟨.machine, .inr (.inl rfl), Looks.of_pure rfl⟩
theorem Calls.type {T : String} : Calls base (.type T) := fun M h _ => ⟨.machine, .inr (.inl rfl), Looks.of_pure rfl⟩
theorem Calls.fn {a : Addr} {o : Obj} {fd : FuncData} (ho : base.get? a = some o) (hd : o.data = .func fd) : Calls base (.ref a) := fun M h st => ⟨.frame, .inl rfl, (Looks.ld (part := none) (st _ _ ho)).andThen (by rw [hd]; exact .now)⟩

theorem callWith_vals {f : Value} {first : List Value} {es : List Expr} {vs : List PV} {env : Env} {A : Around} {g : Gh} {s : Shared} {pos : Pos} {Q E : Value → Shared → Prop} (hf : Calls base f) (hs : env.scope = sc) (G : Good base n A env g ρ s.heap) (ha : EVs w base n sc ρ es vs)
    (hp : (backTo pos (starEach es env)).any (·.1) = false) (hne : ∃ x r, backTo pos (starEach es env) = x :: r) (h : ∀ xs h' tk g', Step g g' s.heap h' → RepL g' vs xs → wpAny (MD w) A (call f (first ++ xs)) Q E { s with heap := h', toks := tk }) :
    wpAny (MD w) A (callWith pos f first (backTo pos (starEach es env)) []) Q E s := by
  refine callWith_of (P := fun h => base.StaysIn h) (by rw [hp]; rfl) (fun h st => hf _ h st) ?_
  have key : wpAny (MD w) A (spliced (backTo pos (starEach es env))) (fun vs' s' => base.StaysIn s'.heap ∧ wpAny (MD w) A (call f (first ++ vs')) Q E s') E s :=
    ha A env g s pos hs G _ _ fun xs h₁ tk₁ g₁ st₁ rx => ⟨(G.step st₁).ok.stays, h xs h₁ tk₁ g₁ st₁ rx⟩
  obtain ⟨x, r, he⟩ := hne
  obtain ⟨b, t⟩ := x
  rw [he] at key hp ⊢
  obtain rfl : b = false := by simp at hp; exact hp.1
  exact evalArgs_plain key

theorem EV.call {x : Str} {p pos : Pos} {es : List Expr} {f : Value} {vs : List PV} {r : PV} (hf : EV w base n sc ρ (.Name x p) (.ref f)) (hk : Calls base f) (ha : EVs w base n sc ρ es vs) (hc : CON w base n f vs r)
    (hp : ∀ env, (backTo pos (starEach es env)).any (·.1) = false := by intros; rfl) (hne : ∀ env, ∃ x r, backTo pos (starEach es env) = x :: r := by intros; exact ⟨_, _, rfl⟩) : EV w base n sc ρ (.Call (.Name x p) es [] pos) r :=
  fun A env g s hs G Q E hq => by
    show wpAny _ _ (do callWith pos (← eval (.Name x p) env) [] (backTo pos (starEach es env)) (backToKw pos (keywordEach [] env))) Q E s
    refine wpAny_bind (hf A env g s hs G _ _ fun fv h₁ tk₁ g₁ st₁ rf => ?_)
    obtain rfl := unR rf
    exact callWith_vals hk hs (G.step st₁) ha (hp env) (hne env) fun xs h₂ tk₂ g₂ st₂ rx => hc A g₂ _ xs ((G.step st₁).step st₂).ok rx _ _ fun z h₃ tk₃ g₃ st₃ rz => hq z h₃ tk₃ g₃ ((st₁.trans st₂).trans st₃) rz

/-- a method of a built-in kind of value that lies nowhere on the heap -/
theorem EV.meth {o : Expr} {name : Str} {apos pos : Pos} {es : List Expr} {T id : String} {ov r : PV} {vs : List PV} (pa : PlainAttrs T) (slot : Slot T name id) (hty : typeOf (.builtin id) = pure (.type "method_descriptor"))
    (ho : EV w base n sc ρ o ov) (hT : ∀ g (s : Shared) x, Sub g s.heap → Rep g ov x → s.TypeIs x T ∧ ∀ a, x ≠ .ref a) (ha : EVs w base n sc ρ es vs) (hc : CON w base n (.builtin id) (ov :: vs) r)
    (hbase : ∀ env, attributeBase o name env (eval o env) = eval o env := by intros; rfl)
    (hfew : ∀ env, ((backTo pos (starEach es env)).all (fun x => !x.1) && (backToKw pos (keywordEach [] env)).all (fun x => x.1.isSome) && decide (es.length + ([] : List Keyword).length + (if ([] : List Keyword).isEmpty then 0 else 1) < 30)) = true := by intros; rfl)
    (hline : (apos.endLine == pos.line) = true := by rfl)
    (hp : ∀ env, (backTo pos (starEach es env)).any (·.1) = false := by intros; rfl) (hne : ∀ env, ∃ x r, backTo pos (starEach es env) = x :: r := by intros; exact ⟨_, _, rfl⟩) :
    EV w base n sc ρ (.Call (.Attribute o name apos) es [] pos) r :=
  fun A env g s hs G Q E hq => wpAny_Call_method (hbase env) (hfew env) hline pa slot hty (ho A env g s hs G _ _ fun x h₁ tk₁ g₁ st₁ rx => by
    have tx := hT g₁ { s with heap := h₁, toks := tk₁ } x st₁.sub rx
    refine ⟨tx.1, fun a e => absurd e (tx.2 a), ?_⟩
    exact callWith_vals .builtin hs (G.step st₁) ha (hp env) (hne env) fun xs h₂ tk₂ g₂ st₂ rxs => hc A g₂ _ (x :: xs) ((G.step st₁).step st₂).ok (RepL.cons (rx.mono st₂.grow) rxs) _ _ fun z h₃ tk₃ g₃ st₃ rz => hq z h₃ tk₃ g₃ ((st₁.trans st₂).trans st₃) rz)
theorem EV.methS {o : Expr} {name : Str} {apos pos : Pos} {es : List Expr} {id : String} {x : Str} {r : PV} {vs : List PV} (slot : Slot "str" name id) (hty : typeOf (.builtin id) = pure (.type "method_descriptor"))
    (ho : EV w base n sc ρ o (.str x)) (ha : EVs w base n sc ρ es vs) (hc : CON w base n (.builtin id) (.str x :: vs) r)
    (hbase : ∀ env, attributeBase o name env (eval o env) = eval o env := by intros; rfl)
    (hfew : ∀ env, ((backTo pos (starEach es env)).all (fun x => !x.1) && (backToKw pos (keywordEach [] env)).all (fun x => x.1.isSome) && decide (es.length + ([] : List Keyword).length + (if ([] : List Keyword).isEmpty then 0 else 1) < 30)) = true := by intros; rfl)
    (hline : (apos.endLine == pos.line) = true := by rfl)
    (hp : ∀ env, (backTo pos (starEach es env)).any (·.1) = false := by intros; rfl) (hne : ∀ env, ∃ x r, backTo pos (starEach es env) = x :: r := by intros; exact ⟨_, _, rfl⟩) :
    EV w base n sc ρ (.Call (.Attribute o name apos) es [] pos) r :=
  EV.meth F.plainAttrs_str slot hty ho (fun g s v _ rv => by obtain ⟨t, rfl⟩ := unS rv; exact ⟨typeIs_str s x t, fun a e => nomatch e⟩) ha hc hbase hfew hline hp hne

theorem un1 {g : Gh} {p : PV} {xs : List Value} (h : RepL g [p] xs) : ∃ x, xs = [x] ∧ Rep g p x := by
  simp only [RepL] at h
  obtain ⟨v, vs, rfl, h1, rfl⟩ := h
  exact ⟨v, rfl, h1⟩
theorem un2 {g : Gh} {p q : PV} {xs : List Value} (h : RepL g [p, q] xs) : ∃ x y, xs = [x, y] ∧ Rep g p x ∧ Rep g q y := by
  simp only [RepL] at h
  obtain ⟨v, vs, rfl, h1, u, us, rfl, h2, rfl⟩ := h
  exact ⟨v, u, rfl, h1, h2⟩
theorem CON.lenS {x : Str} (hx : x.length ≤ sizeLine) : CON w base n (.builtin "len") [.str x] (.int x.length) := fun A g s xs ok rx Q E hq => by
  obtain ⟨v, rfl, rv⟩ := un1 rx
  obtain ⟨t, rfl⟩ := unS rv
  exact P.len_str (by have : sizeLine = 16777216 := by decide
                      omega) (hq _ s.heap _ g (Step.refl ok.sub) repI)
theorem CON.strI {a : Int} (ha : a.natAbs.log2 < 1920) : CON w base n (.type "str") [.int a] (.str (toString a)) := fun A g s xs ok rx Q E hq => by
  obtain ⟨v, rfl, rv⟩ := un1 rx
  obtain ⟨t, rfl⟩ := unI rv
  exact P.str_of_int ha (hq _ s.heap _ g (Step.refl ok.sub) repS)
theorem CON.range {k : Nat} : CON w base n (.type "range") [.int k] (.rng k) := fun A g s xs ok rx Q E hq => by
  obtain ⟨v, rfl, rv⟩ := un1 rx
  obtain ⟨t, rfl⟩ := unI rv
  refine call_range_1 (hq _ _ _ _ (Step.alloc ok.sub _ rfl) ?_)
  simp only [Rep]
  exact ⟨_, s.toks, t, s.toks + 1, rfl, if_pos rfl⟩
theorem strsAre_of {g : Gh} : ∀ {ys : List Str} {vs : List Value}, RepL g (ys.map .str) vs → StrsAre vs ys
  | [], _, h => by simp only [List.map_nil, RepL] at h; subst h; exact .nil
  | y :: r, _, h => by
    simp only [List.map_cons, RepL] at h
    obtain ⟨v, vs, rfl, h1, h2⟩ := h
    obtain ⟨t, rfl⟩ := unS h1
    constructor; exact strsAre_of h2
theorem CON.join {x : Str} {ys : List Str} (hok : (ys.map (·.length)).sum + ys.length * x.length ≤ 16777216) : CON w base n (.builtin "str.join") [.str x, .list (ys.map .str)] (.str (Txt.join x ys)) := fun A g s xs ok rx Q E hq => by
  obtain ⟨v, u, rfl, rv, ru⟩ := un2 rx
  obtain ⟨t, rfl⟩ := unS rv
  obtain ⟨a, o, m, items, rfl, h1, h2, h3, h4⟩ := unL ru
  exact join_list ⟨o, ok.sub _ _ h1, h2, m, h3⟩ (strsAre_of h4) hok fun t' k => hq _ s.heap k g (Step.refl ok.sub) repS
end
end Mine
end
section
open PySem PySem.W PyProof.Rows PySem.Calls PySem.SeqAt
namespace Mine
section
variable {w : World} {base : Heap} {n : Nat} {sc : Scope} {ρ : Rho} {GL : Str → Option Value}

theorem intsAre_of {g : Gh} : ∀ {ns : List Int} {vs : List Value}, RepL g (ns.map .int) vs → IntsAre vs ns
  | [], _, h => by simp only [List.map_nil, RepL] at h; subst h; exact .nil
  | y :: r, _, h => by
    simp only [List.map_cons, RepL] at h
    obtain ⟨v, vs, rfl, h1, h2⟩ := h
    obtain ⟨t, rfl⟩ := unI h1
    constructor; exact intsAre_of h2
theorem preSum_take (l : List Int) : ∀ j, preSum (fun i => l.getD i 0) j = (l.take j).sum
  | 0 => by simp [preSum]
  | j + 1 => by
    rw [preSum, preSum_take l j]
    by_cases h : j < l.length
    · rw [List.take_succ_eq_append_getElem h, List.sum_append]; simp [List.getD, h]
    · rw [List.take_of_length_le (by omega), List.take_of_length_le (by omega)]; simp [List.getD, h]
theorem CON.sum {ns : List Int} : CON w base n (.builtin "sum") [.list (ns.map .int)] (.int ns.sum) := fun A g s xs ok rx Q E hq => by
  obtain ⟨v, rfl, rv⟩ := un1 rx
  refine call_sum_walkAnyS (IT.list A.in1 g s v _ _ ok.handled ok.sub rv fun I fp wr P St h' W st ext hfp hwr hfg hP hSt hIw => ?_)
  refine ⟨I, fp, wr, _, _, P, _, fun i => ns.getD i 0, rfl, W.toS, st, hfp, ?_, fun s' t' mv => ?_⟩
  · intro i v hv
    obtain ⟨q, hq', rq⟩ := hP i v hv
    rw [List.getElem?_map] at hq'
    cases hx : ns[i]? with
    | none => rw [hx] at hq'; cases hq'
    | some z =>
      rw [hx] at hq'
      cases hq'
      obtain ⟨t, rfl⟩ := unI rq
      exact ⟨t, by simp [List.getD, hx]⟩
  · obtain ⟨h2, g2, d2, k2, o2⟩ := s'
    obtain rfl : g2 = s.gens := mv.gens
    obtain rfl : d2 = s.drawn := mv.drawn
    obtain rfl : o2 = s.os := mv.os
    have e : preSum (fun i => ns.getD i 0) (ns.map PV.int).length = ns.sum := by rw [preSum_take, List.length_map, List.take_length]
    rw [e]
    refine hq _ h2 k2 g (Step.of_ext ok.sub fun b o x => mv.heap b o (fun hb => by rw [hwr b hb] at x; cases x) (ext b o x)) repI

theorem P2.inLI {k : Int} {ns : List Int} : P2 w base n (compareOp .In) (.int k) (.list (ns.map .int)) (.bool (ns.any (· == k))) := fun A g s x y ok rx ry Q E hq => by
  obtain ⟨t, rfl⟩ := unI rx
  obtain ⟨a, o, m, items, rfl, h1, h2, h3, h4⟩ := unL ry
  exact in_list_ints (vs := items.toList) ⟨o, ok.sub _ _ h1, h2, m, h3⟩ (intsAre_of h4) (hq _ s.heap s.toks g (Step.refl ok.sub) repB)
theorem P2.inLS {k : Str} {ys : List Str} : P2 w base n (compareOp .In) (.str k) (.list (ys.map .str)) (.bool (ys.any (· == k))) := fun A g s x y ok rx ry Q E hq => by
  obtain ⟨t, rfl⟩ := unS rx
  obtain ⟨a, o, m, items, rfl, h1, h2, h3, h4⟩ := unL ry
  exact in_list_strs (vs := items.toList) ⟨o, ok.sub _ _ h1, h2, m, h3⟩ (strsAre_of h4) (hq _ s.heap s.toks g (Step.refl ok.sub) repB)
theorem P2.ninLS {k : Str} {ys : List Str} : P2 w base n (compareOp .NotIn) (.str k) (.list (ys.map .str)) (.bool (!(ys.any (· == k)))) := fun A g s x y ok rx ry Q E hq => by
  obtain ⟨t, rfl⟩ := unS rx
  obtain ⟨a, o, m, items, rfl, h1, h2, h3, h4⟩ := unL ry
  exact notin_list_strs (vs := items.toList) ⟨o, ok.sub _ _ h1, h2, m, h3⟩ (strsAre_of h4) (hq _ s.heap s.toks g (Step.refl ok.sub) repB)
theorem P2.addL {l l' : List PV} (hz : l.length + l'.length ≤ sizeLine) : P2 w base n (binaryOp .Add) (.list l) (.list l') (.list (l ++ l')) := fun A g s x y ok rx ry Q E hq => by
  obtain ⟨a, o, m, items, rfl, h1, h2, h3, h4⟩ := unL rx
  obtain ⟨a', o', m', items', rfl, h1', h2', h3', h4'⟩ := unL ry
  obtain ⟨cls, dd, data, sl⟩ := o
  obtain ⟨cls2, dd2, data2, sl2⟩ := o'
  simp only at h2 h3 h2' h3'
  subst h2 h3 h2' h3'
  have hz' : items.size + items'.size ≤ sizeLine := by
    have e1 := h4.length; have e2 := h4'.length
    simp only [Array.length_toList] at e1 e2
    omega
  refine concat_meets ⟨_, ok.sub _ _ h1, rfl⟩ ⟨_, ok.sub _ _ h1', rfl⟩ noFill_list_add seq_list_add PySem.F.slot_list_add PySem.F.entry_list_add (PySem.F.args_list_add_2 _ _) (list_addW a a' items items' m m' dd dd2 sl sl2 hz') ⟨ok.sub _ _ h1, ok.sub _ _ h1', ?_⟩
  have st := Step.alloc ok.sub { cls := .type "list", data := .seq (items ++ items') } rfl
  refine hq _ _ _ _ st ?_
  simp only [Rep]
  exact ⟨_, { cls := .type "list", data := .seq (items ++ items') }, 0, _, rfl, if_pos rfl, rfl, rfl, by rw [Array.toList_append]; exact (h4.mono st.grow).app (h4'.mono st.grow)⟩

/-- an int or a text -/
noncomputable def Flat : PV → Prop
  | .int _ | .str _ => True
  | _ => False
theorem eq_flat {g : Gh} {p : PV} {x y : Value} (hp : Flat p) (hx : Rep g p x) (hy : Rep g p y) (A : Around) (s : Shared) : EqAt A s x y true := by
  cases p with
  | int i =>
    obtain ⟨t, rfl⟩ := unI hx
    obtain ⟨u, rfl⟩ := unI hy
    have := EqAt.int_int (A := A) (s := s) i t i u
    simpa using this
  | str i =>
    obtain ⟨t, rfl⟩ := unS hx
    obtain ⟨u, rfl⟩ := unS hy
    have := EqAt.str_str (A := A) (s := s) i t i u
    simpa using this
  | _ => exact hp.elim
theorem P2.eqL {l : List PV} (hf : ∀ p ∈ l, Flat p) : P2 w base n (compareOp .Eq) (.list l) (.list l) (.bool true) := fun A g s x y ok rx ry Q E hq => by
  obtain ⟨a, o, m, items, rfl, h1, h2, h3, h4⟩ := unL rx
  obtain ⟨a', o', m', items', rfl, h1', h2', h3', h4'⟩ := unL ry
  have e1 := h4.length; have e2 := h4'.length
  simp only [Array.length_toList] at e1 e2
  refine eq_listAt (e := fun _ => true) ⟨o, ok.sub _ _ h1, h2, m, h3⟩ ⟨o', ok.sub _ _ h1', h2', m', h3'⟩ (by omega) (by have := ok.units; omega) (fun j hj hj' => ?_) ?_
  · have hl : j < l.length := by omega
    obtain ⟨u, hu, ru⟩ := h4.get (List.getElem?_eq_getElem hl)
    obtain ⟨v, hv, rv⟩ := h4'.get (List.getElem?_eq_getElem hl)
    have eu : items[j] = u := by simpa [hj] using hu
    have ev : items'[j] = v := by simpa [hj'] using hv
    rw [eu, ev]
    exact eq_flat (hf _ (List.getElem_mem hl)) ru rv _ _
  · have : (List.range items.size).all (fun _ => true) = true := by simp
    rw [this]
    exact hq _ s.heap s.toks g (Step.refl ok.sub) repB
end
end Mine
end
section
open PySem PySem.W PyProof.Rows PySem.Calls PySem.SeqAt
namespace Mine
section
variable {w : World} {base : Heap} {n : Nat} {sc : Scope} {ρ : Rho} {GL : Str → Option Value}
open Builtin Builtin.Str

/-- x[a:b] -/
noncomputable def cut (x : Str) (a b : Int) : Str :=
  if ((strSliceIndices (some a) (some b) 1 x.length).length == x.length) = true then x else ⟨((strSliceIndices (some a) (some b) 1 x.length).filterMap (x.cps[·]?)).toArray⟩
theorem EV.cutS {value lo hi : Expr} {p pos : Pos} {x : Str} {a b : Int} (hv : EV w base n sc ρ value (.str x)) (hl : EV w base n sc ρ lo (.int a)) (hh : EV w base n sc ρ hi (.int b)) (hz : (cut x a b).length ≤ sizeLine)
    (ht : ∀ o r, letTemporaryGo value o r = pure () := by intro _ _; rfl) : EV w base n sc ρ (.Subscript value (.Slice (some lo) (some hi) Option.none p) pos) (.str (cut x a b)) :=
  fun A env g s hs G Q E hq => wpAny_Subscript_str_slice (hv A env g s hs G _ _ fun vx h₁ tk₁ g₁ st₁ rx => evalPart_some_step (hl A env g₁ _ hs (G.step st₁) _ _ fun va h₂ tk₂ g₂ st₂ ra =>
    evalPart_some_step (hh A env g₂ _ hs ((G.step st₁).step st₂) _ _ fun vb h₃ tk₃ g₃ st₃ rb => by
      obtain ⟨t, rfl⟩ := unS rx
      obtain ⟨ta, rfl⟩ := unI ra
      obtain ⟨tb, rfl⟩ := unI rb
      refine ⟨x, t, some (a, ta), some (b, tb), rfl, rfl, rfl, ?_⟩
      have st := ((st₁.trans st₂).trans st₃).trans (Step.of_ext st₃.sub (h' := h₃.push { cls := .type "slice", data := .fields #[.int a ta, .int b tb, .none] }) fun b o e => Heap.get?_push_of_some _ e)
      by_cases hc : ((strSliceIndices (some a) (some b) 1 x.length).length == x.length) = true
      · have e : sliceMade x t (some (a, ta)) (some (b, tb)) Option.none = .val (.str x t) := by
          unfold sliceMade slicePicked
          simp only [Option.map_some, Option.map_none, Option.getD_none, hc, beq_self_eq_true, Bool.and_self, if_true]
        rw [e]
        have e2 : cut x a b = x := if_pos hc
        rw [e2] at hq
        exact hq _ _ tk₃ g₃ st repS
      · have e : sliceMade x t (some (a, ta)) (some (b, tb)) Option.none = .str (cut x a b) := by
          unfold sliceMade slicePicked cut
          simp only [Option.map_some, Option.map_none, Option.getD_none, hc, beq_self_eq_true, Bool.true_and]
          rfl
        rw [e]
        exact ⟨hz, hq _ _ _ g₃ st repS⟩))) ht

theorem EV.cutL {value hi : Expr} {p pos : Pos} {l : List PV} {k : Nat} (hv : EV w base n sc ρ value (.list l)) (hh : EV w base n sc ρ hi (.int k)) (hz : l.length ≤ sizeLine)
    (ht : ∀ o r, letTemporaryGo value o r = pure () := by intro _ _; rfl) : EV w base n sc ρ (.Subscript value (.Slice Option.none (some hi) Option.none p) pos) (.list (l.take k)) :=
  fun A env g s hs G Q E hq => wpAny_Subscript_list_slice (hv A env g s hs G _ _ fun vx h₁ tk₁ g₁ st₁ rx => evalPart_none_step (evalPart_some_step (hh A env g₁ _ hs (G.step st₁) _ _ fun vb h₃ tk₃ g₃ st₃ rb => by
      obtain ⟨a, o, m, items, rfl, h1, h2, h3, h4⟩ := unL (rx.mono st₃.grow)
      obtain ⟨tb, rfl⟩ := unI rb
      have e1 := h4.length
      simp only [Array.length_toList] at e1
      refine ⟨a, items, Option.none, some k, rfl, ⟨o, st₃.sub _ _ h1, h2, m, h3⟩, by omega, .none, .int _ _, ?_⟩
      rw [slicePick_upto']
      have st' := (st₁.trans st₃).trans (Step.of_ext st₃.sub (h' := h₃.push { cls := .type "slice", data := .fields #[.none, .int k tb, .none] }) fun b o e => Heap.get?_push_of_some _ e)
      have al := Step.alloc st'.sub { cls := .type "list", data := .seq (items.toList.take k).toArray } rfl
      have hsz : (h₃.push { cls := .type "slice", data := .fields #[.none, .int k tb, .none] }).objs.size = h₃.objs.size + 1 := Heap.size_push ..
      rw [hsz] at al
      refine hq _ _ tk₃ _ (st'.trans al) ?_
      simp only [Rep]
      exact ⟨_, { cls := .type "list", data := .seq (items.toList.take k).toArray }, 0, _, rfl, if_pos rfl, rfl, rfl, by simpa using (h4.mono al.grow).take k⟩))) ht

theorem EV.revL {value one : Expr} {p pos : Pos} {l : List PV} (hv : EV w base n sc ρ value (.list l)) (hh : EV w base n sc ρ one (.int (-1))) (hz : l.length ≤ sizeLine)
    (ht : ∀ o r, letTemporaryGo value o r = pure () := by intro _ _; rfl) : EV w base n sc ρ (.Subscript value (.Slice Option.none Option.none (some one) p) pos) (.list l.reverse) :=
  fun A env g s hs G Q E hq => wpAny_Subscript_Slice_step (T := "list") list_getitem_lookup (hv A env g s hs G _ _ fun vx h₁ tk₁ g₁ st₁ rx => wpAny_Slice (evalPart_none_step (evalPart_none_step (evalPart_some_step (hh A env g₁ _ hs (G.step st₁) _ _ fun vb h₃ tk₃ g₃ st₃ rb => by
      obtain ⟨a, o, m, items, rfl, h1, h2, h3, h4⟩ := unL (rx.mono st₃.grow)
      obtain ⟨tb, rfl⟩ := unI rb
      have e1 := h4.length
      simp only [Array.length_toList] at e1
      have hl : h₃.IsList a items := ⟨o, st₃.sub _ _ h1, h2, m, h3⟩
      refine ⟨Heap.IsList.typeIs (s := { s with heap := h₃.push { cls := .type "slice", data := .fields #[.none, .none, .int (-1) tb] } }) (hl.push _), wpAny_getItem_list_slice (hl.push _) (Heap.IsSliceOf.new ..) .none .none (.int (-1) tb) (by decide) ?_ (by omega)⟩
      rw [krv_pick]
      have st' := (st₁.trans st₃).trans (Step.of_ext st₃.sub (h' := h₃.push { cls := .type "slice", data := .fields #[.none, .none, .int (-1) tb] }) fun b o e => Heap.get?_push_of_some _ e)
      have al := Step.alloc st'.sub { cls := .type "list", data := .seq items.toList.reverse.toArray } rfl
      refine hq _ _ tk₃ _ (st'.trans al) ?_
      simp only [Rep]
      exact ⟨_, { cls := .type "list", data := .seq items.toList.reverse.toArray }, 0, _, rfl, if_pos rfl, rfl, rfl, by simpa using (h4.mono al.grow).rev⟩))))) ht
end
end Mine
end
section
open PySem PySem.W PyProof.Rows PySem.Calls PySem.SeqAt
namespace Mine

/-- the scope of a comprehension's block as the block runs -/
noncomputable def relab (scope sc : Scope) : Scope :=
  { scope with names := scope.names.map fun (n, k) => if (k == .free && sc.kind == .function && sc.names.lookup n == some .cell) then (n, .cell) else (n, k) }
theorem relabel_eq (scope : Scope) (env : Env) : relabel scope env = relab scope env.scope := rfl
/-- the names that it shares with the block around -/
noncomputable def capt (sc' : Scope) (ρ : Rho) : Rho := ρ.filter fun e => sc'.names.lookup e.1 == some .cell
theorem capt_lookup {sc' : Scope} {x : Str} {v : PV} : ∀ {ρ : Rho}, (capt sc' ρ).lookup x = some v → ρ.lookup x = some v ∧ sc'.names.lookup x = some .cell
  | [], h => by simp [capt] at h
  | (y, u) :: r, h => by
    unfold capt at h
    rw [List.filter_cons] at h
    by_cases hy : (sc'.names.lookup y == some .cell) = true
    · rw [if_pos hy] at h
      rw [List.lookup_cons] at h ⊢
      by_cases e : (x == y) = true
      · rw [e] at h ⊢
        rw [eq_of_beq e]
        exact ⟨h, eq_of_beq hy⟩
      · simp only [e] at h ⊢
        exact capt_lookup (ρ := r) h
    · rw [if_neg hy] at h
      have ih := capt_lookup (ρ := r) h
      refine ⟨?_, ih.2⟩
      rw [List.lookup_cons]
      by_cases e : (x == y) = true
      · rw [eq_of_beq e] at ih
        exact absurd (by rw [ih.2]; rfl) hy
      · simp only [e]; exact ih.1

/-- the cells that a block takes from around it -/
noncomputable def cellsFor (env : Env) : List (Str × NameKind) → List (Str × Addr) → List (Str × Addr)
  | [], acc => acc
  | (x, k) :: r, acc => cellsFor env r (if k == .free then (x, (env.cells.lookup x).getD 0) :: acc else acc)
theorem closureFor_eq {scope : Scope} {env : Env} (h : ∀ p ∈ scope.names, p.2 = .free → (env.cells.lookup p.1).isSome = true) : closureFor scope env = pure (cellsFor env scope.names []) := by
  have key : ∀ (l : List (Str × NameKind)) (acc : List (Str × Addr)), (∀ p ∈ l, p.2 = .free → (env.cells.lookup p.1).isSome = true) →
      (forIn l acc fun x r => do
        match x with
        | (name, kind) => if kind == .free then do let a ← cellOf env name; pure (ForInStep.yield ((name, a) :: r)) else pure (ForInStep.yield r) : Sem (List (Str × Addr))) = pure (cellsFor env l acc) := by
    intro l
    induction l with
    | nil => intro acc _; rfl
    | cons p r ih =>
      intro acc hp
      obtain ⟨x, k⟩ := p
      rw [List.forIn_cons]
      have hr := fun q hq => hp q (List.mem_cons_of_mem _ hq)
      by_cases hk : (k == .free) = true
      · have hs := hp (x, k) List.mem_cons_self (eq_of_beq hk)
        obtain ⟨a, ha⟩ := Option.isSome_iff_exists.mp hs
        have e : cellOf env x = pure a := by unfold cellOf; rw [ha]
        simp only [hk, if_true, e, pure_bind, cellsFor, ha, Option.getD_some]
        exact ih _ hr
      · simp only [hk, Bool.false_eq_true, if_false, pure_bind, cellsFor]
        exact ih _ hr
  have e := key scope.names [] h
  show (forIn scope.names ([] : List (Str × Addr)) (fun x r => do
        match x with
        | (name, kind) => if kind == .free then do let a ← cellOf env name; pure (ForInStep.yield ((name, a) :: r)) else pure (ForInStep.yield r)) : Sem (List (Str × Addr))) >>= pure = _
  rw [e]
  rfl
theorem cellsFor_lookup {env : Env} {x : Str} {c : Addr} (hc : env.cells.lookup x = some c) : ∀ (l : List (Str × NameKind)) (acc : List (Str × Addr)), (l.lookup x = some .free ∨ acc.lookup x = some c) → (∀ k, (x, k) ∈ l → k = .free) → (cellsFor env l acc).lookup x = some c
  | [], acc, h, _ => by
    rcases h with h | h
    · simp at h
    · exact h
  | (y, k) :: r, acc, h, hu => by
    unfold cellsFor
    refine cellsFor_lookup hc r _ ?_ (fun k' hk' => hu k' (List.mem_cons_of_mem _ hk'))
    by_cases e : (x == y) = true
    · have : x = y := eq_of_beq e
      subst this
      have hk : k = .free := hu k List.mem_cons_self
      subst hk
      right
      simp [List.lookup_cons, hc]
    · rcases h with h | h
      · left
        rw [List.lookup_cons] at h
        simpa only [e] using h
      · right
        by_cases hk : (k == .free) = true
        · rw [if_pos hk, List.lookup_cons]; simpa only [e] using h
        · rw [if_neg hk]; exact h
end Mine
end
section
open PySem PySem.W PyProof.Rows PySem.Calls PySem.SeqAt
namespace Mine
section
variable {w : World} {base : Heap} {n : Nat} {sc : Scope} {ρ : Rho} {GL : Str → Option Value}

/-- a comprehension's tests -/
noncomputable def TVs (w : World) (base : Heap) (n : Nat) (sc : Scope) (ρ : Rho) (ifs : List Expr) (b : Bool) : Prop :=
  ∀ (A : Around) (env : Env) (g : Gh) (s : Shared), env.scope = sc → Good base n A env g ρ s.heap →
    YB (MD w) A (forIn ifs true fun c r => if r = true then do let ok ← isTrue c env (eval c env); pure (ForInStep.yield ok) else pure (ForInStep.yield r)) g s b
theorem TVs.nil : TVs w base n sc ρ [] true := fun A env g s hs G Q E hq => wpAny_pure (hq s.heap s.toks g (Step.refl G.ok.sub))
theorem TVs.one {c : Expr} {b : Bool} (h : TV w base n sc ρ c b) : TVs w base n sc ρ [c] b := fun A env g s hs G Q E hq => by
  rw [List.forIn_cons]
  simp only [if_true, List.forIn_nil]
  refine wpAny_bind (wpAny_bind (h A env g s hs G _ _ fun h₁ tk₁ g₁ st₁ => wpAny_pure (wpAny_pure (hq h₁ tk₁ g₁ st₁))))

theorem sub_none {g : Gh} {H : Heap} (h : Sub g H) {b : Addr} (hb : H.get? b = none) : g b = none := by
  cases e : g b with
  | none => rfl
  | some o => rw [h b o e] at hb; cases hb

theorem relab_local {scope : Scope} {x : Str} (h : scope.names.lookup x = some .local) (env : Env) : (relab scope env.scope).names.lookup x = some .local := lookup_relabel_local (env := env) h
theorem relab_cell {sc : Scope} {x : Str} : ∀ {names : List (Str × NameKind)}, (∀ p ∈ names, p.2 ≠ .cell) →
    (names.map fun (n, k) => if (k == NameKind.free && sc.kind == .function && sc.names.lookup n == some .cell) then (n, NameKind.cell) else (n, k)).lookup x = some .cell → names.lookup x = some .free ∧ sc.names.lookup x = some .cell
  | [], _, h => by simp at h
  | (y, k) :: r, hc, h => by
    have ih := @relab_cell sc x r (fun p hp => hc p (List.mem_cons_of_mem _ hp))
    rw [List.map_cons] at h
    by_cases e : (x == y) = true
    · have exy : x = y := eq_of_beq e
      subst exy
      by_cases hk : (k == NameKind.free && sc.kind == .function && sc.names.lookup x == some .cell) = true
      · simp only [Bool.and_eq_true] at hk
        refine ⟨?_, eq_of_beq hk.2⟩
        rw [List.lookup_cons]; simp only [BEq.rfl]; rw [eq_of_beq hk.1.1]
      · dsimp only at h
        rw [if_neg hk, List.lookup_cons] at h
        simp only [BEq.rfl, Option.some.injEq] at h
        exact absurd h (hc (x, k) List.mem_cons_self)
    · have h' : (r.map fun (n, k) => if (k == NameKind.free && sc.kind == .function && sc.names.lookup n == some .cell) then (n, NameKind.cell) else (n, k)).lookup x = some .cell := by
        dsimp only at h
        by_cases hk : (k == NameKind.free && sc.kind == .function && sc.names.lookup y == some .cell) = true
        · rw [if_pos hk, List.lookup_cons] at h; simpa only [e] using h
        · rw [if_neg hk, List.lookup_cons] at h; simpa only [e] using h
      rw [List.lookup_cons]; simp only [e]
      exact ih h'

theorem comp_loop {elt iter : Expr} {x : Str} {px pos : Pos} {ifs : List Expr} {scope scope₀ : Scope} {items : List PV} (sel : PV → Bool) (f : PV → PV) {ρ' : PV → Rho} {A : Around} {I D : Addr} {fp wr : List Addr} {P : Nat → Value → Prop} {St : Nat → Heap → Prop} {cenv : Env} {g : Gh} {H : Heap} {s : Shared}
    {R : Result → Shared → Prop}
    (W : Walks prog w A I fp wr items.length P St) (hP : ∀ i v, P i v → ∃ q, items[i]? = some q ∧ Rep g q v) (hSt : ∀ i h, St i h → ∀ b ∈ wr, ∃ o vs, h.get? b = some o ∧ o.data = .fields vs) (hfg : ∀ b ∈ fp, b ∈ wr ∨ ∃ o, g b = some o)
    (hscope : cenv.scope = scope) (hx : cenv.kindOf x = some .local) (hkind : cenv.scope.kind = .function)
    (hnames : ∀ h g' q v m, Soft H h → (∀ b, g b = none → (∃ o, H.get? b = some o) → g' b = none) → (∀ b o, g b = some o → g' b = some o) → Sub g' h → h.Ns cenv.locals m → m x = some v → Rep g' q v → Good base n A cenv g' (ρ' q) h)
    (htest : ∀ q ∈ items, TVs w base n scope (ρ' q) ifs (sel q)) (helt : ∀ q ∈ items, sel q = true → EV w base n scope (ρ' q) elt (f q))
    (hDC : D ≠ cenv.locals) (hDf : D ∉ fp) (hCf : cenv.locals ∉ fp) (hD : H.get? D = none) (hC : H.get? cenv.locals = none) (hwr : ∀ b ∈ wr, H.get? b = none) (hz : items.length ≤ sizeLine) (hgH : Sub g H)
    (ext : ∀ b o, H.get? b = some o → s.heap.get? b = some o) (hst : St 0 s.heap) (hacc : s.heap.PlainList D #[]) (m : Str → Option Value) (hn : s.heap.Ns cenv.locals m)
    (hR : ∀ h' tk g' m' ys, Step g g' H h' → g' D = none → g' cenv.locals = none → h'.PlainList D ys → RepL g' ((items.filter sel).map f) ys.toList → h'.Ns cenv.locals m' → R (.ok .next) { s with heap := h', toks := tk }) :
    codeAny (MD w) A (.compLoop (.ListComp elt [⟨.Name x px, iter, ifs, 0⟩] scope₀ pos) 0 (.ref I) (.ref D) cenv) R s := by
  have hp : (cenv.scope.kind == .class || (cenv.scope.kind == .module && cenv.locals != cenv.globals)) = false := by rw [hkind]; rfl
  have hCw : cenv.locals ∉ wr := fun h => hCf (W.sub _ h)
  have hDw : D ∉ wr := fun h => hDf (W.sub _ h)
  refine codeAny_compLoop_tests (fun k s' => ∃ i h tk g' m' ys, s' = { s with heap := h, toks := tk } ∧ i ≤ items.length ∧ k = items.length + 1 - i ∧ St i h ∧ h.PlainList D ys ∧ h.Ns cenv.locals m' ∧ RepL g' (((items.take i).filter sel).map f) ys.toList ∧
    Step g g' H h ∧ g' D = none ∧ g' cenv.locals = none ∧ (∀ b ∈ wr, g' b = none)) ?_ (items.length + 1) ⟨0, s.heap, s.toks, g, m, #[], rfl, Nat.zero_le _, rfl, hst, hacc, hn, by simp [RepL], ⟨Soft.of_ext ext, fun _ _ e => e, fun _ _ e => .inl e, fun b o e => ext b o (hgH b o e)⟩, ?_, ?_, ?_⟩
  · rintro k s' ⟨i, h, tk, g', m', ys, rfl, hi, rfl, hst', hacc', hn', hrep, step, gD, gC, gw⟩
    by_cases hlt : i < items.length
    · refine W.item i _ _ _ hlt hst' fun v h₁ tk₁ hPv hst₁ hk₁ => ?_
      obtain ⟨q, hq, rq⟩ := hP i v hPv
      have hmem : q ∈ items := List.mem_of_getElem? hq
      have htake : items.take (i + 1) = items.take i ++ [q] := by rw [List.take_add_one, hq]; rfl
      refine wpAny_assign_Name (wpAny_storeName_local hx (hn'.at' fun o e => hk₁ _ o hCw e) (fun h₂ hn₂ hs₂ => ?_) hp)
      have up₂ : ∀ b o, b ≠ cenv.locals → b ∉ wr → h.get? b = some o → h₂.get? b = some o := fun b o hbC hbw e => hs₂.extBut b o hbC (hk₁ b o hbw e)
      have hst₂ : St (i + 1) h₂ := W.frame _ _ _ hst₁ fun b hb o e => hs₂.extBut b o (fun z => hCf (z ▸ hb)) e
      have sub₂ : Sub g' h₂ := fun b o e => up₂ b o (fun z => by rw [z, gC] at e; cases e) (fun z => by rw [gw b z] at e; cases e) (step.sub b o e)
      have ext₂ : Soft H h₂ := step.ext.then fun b o ⟨o', e⟩ => up₂ b o (fun z => by rw [z, hC] at e; cases e) (fun z => by rw [hwr b z] at e; cases e)
      have G₂ := hnames h₂ g' q v _ ext₂ (fun b => step.noNew) step.grow sub₂ hn₂ (by simp) (rq.mono step.grow)
      refine htest q hmem A cenv g' { s with heap := h₂, toks := tk₁ + 1 } hscope G₂ _ _ fun h₃ tk₃ g₃ st₃ => ?_
      have hacc₃ : h₃.PlainList D ys := st₃.ext.plain (hacc'.at fun o e => up₂ D o hDC hDw e)
      have hn₃ := st₃.ext.ns hn₂
      have hst₃ : St (i + 1) h₃ := W.frame _ _ _ hst₂ fun b hb o e => by
        rcases hfg b hb with hw | ⟨o', ho'⟩
        · obtain ⟨o', vs, e1, e2⟩ := hSt _ _ hst₂ b hw
          rw [e] at e1; cases e1
          exact st₃.ext.fields e e2
        · have z := sub₂ b o' (step.grow _ _ ho')
          rw [e] at z; cases z
          exact st₃.sub b o (st₃.grow _ _ (step.grow _ _ ho'))
      have step₃ : Step g g₃ H h₃ := ⟨ext₂.trans st₃.ext, fun b o e => st₃.grow b o (step.grow b o e), fun b o e => (st₃.new b o e).elim (step.new b o) fun z => .inr (ext₂.none z), st₃.sub⟩
      have noNew : ∀ {g g' : Gh} {h h' : Heap} {b : Addr}, Step g g' h h' → g b = none → (∃ o, h.get? b = some o) → g' b = none := fun {g g' h h' b} st e1 e2 => st.noNew e1 e2
      have exD : ∃ o, h₂.get? D = some o := by obtain ⟨k, e⟩ := hacc'; exact ⟨_, up₂ D _ hDC hDw e⟩
      have exC : ∃ o, h₂.get? cenv.locals = some o := by obtain ⟨o, _, _, e, _⟩ := hn₂; exact ⟨o, e⟩
      have gD₃ := noNew st₃ gD exD
      have gC₃ := noNew st₃ gC exC
      have gw₃ : ∀ b ∈ wr, g₃ b = none := fun b hb => noNew st₃ (gw b hb) (let ⟨o, _, e, _⟩ := hSt _ _ hst₂ b hb; ⟨o, e⟩)
      cases hsel : sel q with
      | false =>
        simp only [Bool.false_eq_true, if_false]
        refine ⟨items.length + 1 - (i + 1), by omega, i + 1, h₃, tk₃, g₃, _, ys, rfl, hlt, rfl, hst₃, hacc₃, hn₃, ?_, step₃, gD₃, gC₃, gw₃⟩
        rw [htake, List.filter_append]
        simpa [hsel] using hrep.mono st₃.grow
      | true =>
        simp only [if_true]
        have G₃ := hnames h₃ g₃ q v _ step₃.ext (fun b => step₃.noNew) step₃.grow st₃.sub hn₃ (by simp) ((rq.mono step.grow).mono st₃.grow)
        refine helt q hmem hsel A cenv g₃ { s with heap := h₃, toks := tk₃ } hscope G₃ _ _ fun y h₄ tk₄ g₄ st₄ ry => ?_
        have hys : ys.size ≤ sizeLine := by
          have e1 := hrep.length
          have e2 : ((items.take i).filter sel).length ≤ (items.take i).length := List.length_filter_le _ _
          simp only [Array.length_toList, List.length_map, List.length_take] at e1 e2
          omega
        have hacc₄ : h₄.PlainList D ys := st₄.ext.plain hacc₃
        refine wpAny_list_append_plain (hsz := hys) hacc₄ fun h₅ hl₅ hs₅ => ?_
        have step₄ := step₃.trans st₄
        have exD₃ : ∃ o, h₃.get? D = some o := st₃.ext.ex exD
        have exC₃ : ∃ o, h₃.get? cenv.locals = some o := st₃.ext.ex exC
        have gD₄ := noNew st₄ gD₃ exD₃
        have gC₄ := noNew st₄ gC₃ exC₃
        have gw₄ : ∀ b ∈ wr, g₄ b = none := fun b hb => noNew st₄ (gw₃ b hb) (let ⟨o, _, e, _⟩ := hSt _ _ hst₃ b hb; ⟨o, e⟩)
        have sub₅ : Sub g₄ h₅ := fun b o e => hs₅.extBut b o (fun z => by rw [z, gD₄] at e; cases e) (step₄.sub b o e)
        refine ⟨items.length + 1 - (i + 1), by omega, i + 1, h₅, tk₄, g₄, _, ys.push y, rfl, hlt, rfl, ?_, hl₅, (st₄.ext.ns hn₃).sameBut hs₅ (Ne.symm hDC), ?_, ⟨step₄.ext.then fun b o ⟨o', e⟩ => hs₅.extBut b o (fun z => by rw [z, hD] at e; cases e), step₄.grow, step₄.new, sub₅⟩, gD₄, gC₄, gw₄⟩
        · exact W.frame _ _ h₅ hst₃ fun b hb o e => hs₅.extBut b o (fun z => hDf (z ▸ hb)) (by
            rcases hfg b hb with hw | ⟨o', ho'⟩
            · obtain ⟨o', vs, e1, e2⟩ := hSt _ _ hst₃ b hw
              rw [e] at e1; cases e1
              exact st₄.ext.fields e e2
            · have z := st₃.sub b o' (step₃.grow _ _ ho')
              rw [e] at z; cases z
              exact st₄.sub b o (st₄.grow _ _ (step₃.grow _ _ ho')))
        · rw [htake, List.filter_append, List.map_append, Array.toList_push]
          refine RepL.app ((hrep.mono st₃.grow).mono st₄.grow) ?_
          have : (List.filter sel [q]).map f = [f q] := by simp [hsel]
          rw [this]
          exact RepL.one ry
    · have hin : i = items.length := by omega
      subst hin
      refine W.done _ _ _ hst' fun h₁ tk₁ hk₁ => ?_
      have e : items.take items.length = items := List.take_length
      rw [e] at hrep
      have sub₁ : Sub g' h₁ := fun b o e => hk₁ b o (fun z => by rw [gw b z] at e; cases e) (step.sub b o e)
      exact hR h₁ tk₁ g' m' ys ⟨step.ext.then fun b o ⟨o', e⟩ => hk₁ b o (fun z => by rw [hwr b z] at e; cases e), step.grow, step.new, sub₁⟩ gD gC (hacc'.at fun o e => hk₁ _ o hDw e) hrep (hn'.at' fun o e => hk₁ _ o hCw e)
  · exact sub_none hgH hD
  · exact sub_none hgH hC
  · exact fun b hb => sub_none hgH (hwr b hb)

/-- what a comprehension's scope must be -/
noncomputable def compOk (scope sc : Scope) (ρ : Rho) (x : Str) : Bool :=
  scope.kind == .function && scope.names.all (fun p => p.2 != .cell) && scope.names.lookup x == some .local && scope.names.all (fun p => scope.names.lookup p.1 == some p.2) &&
  scope.names.all (fun p => p.2 != .free || ((ρ.lookup p.1).isSome && sc.names.lookup p.1 == some .cell))

theorem comp_good {scope : Scope} {x : Str} {A : Around} {env : Env} {g g' : Gh} {H h : Heap} {C : Addr} {q : PV} {v : Value} {m : Str → Option Value} (hok : compOk scope env.scope ρ x = true) (G : Good base n A env g ρ H)
    (ext : Soft H h) (nn : ∀ b, g b = none → (∃ o, H.get? b = some o) → g' b = none) (grow : ∀ b o, g b = some o → g' b = some o) (sub : Sub g' h) (hn : h.Ns C m) (hm : m x = some v) (rq : Rep g' q v) :
    Good base n A (compEnvC scope (cellsFor env scope.names []) C env) g' ((x, q) :: capt (relab scope env.scope) ρ) h := by
  simp only [compOk, Bool.and_eq_true] at hok
  obtain ⟨⟨⟨⟨k1, k2⟩, k3⟩, k4⟩, k5⟩ := hok
  refine ⟨⟨sub, fun b o e => grow b o (G.ok.gb b o e), G.ok.handled, G.ok.depth, G.ok.units, ?_⟩, ⟨eq_of_beq k1, G.envok.globals, G.envok.builtins⟩, fun y u hy => ?_⟩
  · obtain ⟨l, a, b⟩ := G.ok.frames
    exact ⟨l, a, b.upd (fun b o es ep e d => let ⟨o', e', d', _⟩ := ext b o e; ⟨o', es, ep, e', d'.trans d⟩) nn⟩
  · rw [List.lookup_cons] at hy
    by_cases e : (y == x) = true
    · rw [e] at hy
      obtain rfl : y = x := eq_of_beq e
      cases hy
      exact ⟨v, .inl ⟨relab_local (eq_of_beq k3) env, m, hn, hm⟩, rq⟩
    · simp only [e] at hy
      obtain ⟨h1, h2⟩ := capt_lookup hy
      obtain ⟨pv, hh, rp⟩ := G.names y u h1
      have hc : ∀ p ∈ scope.names, p.2 ≠ .cell := fun p hp => by have := List.all_eq_true.mp k2 p hp; simpa using this
      obtain ⟨f1, f2⟩ := relab_cell hc h2
      rcases hh with ⟨z, _⟩ | ⟨z, c, o, b1, b2, b3⟩
      · have : env.scope.names.lookup y = some .local := z
        rw [f2] at this; cases this
      · refine ⟨pv, .inr ⟨h2, c, o, cellsFor_lookup b1 _ _ (.inl f1) (fun k hk => ?_), ext.cellAt b2 b3, b3⟩, rp.mono grow⟩
        have := List.all_eq_true.mp k4 (y, k) hk
        rw [f1] at this
        have h9 : NameKind.free = k := by simpa using this
        exact h9.symm

theorem comp_core {elt iter : Expr} {x : Str} {px pos pos' : Pos} {ifs : List Expr} {scope : Scope} {p : PV} {items : List PV} (sel : PV → Bool) (f : PV → PV) (use : Option (Value → Sem Unit)) {A : Around} {env : Env} {g : Gh} {s : Shared} {Q E : Value → Shared → Prop}
    (hok : compOk scope env.scope ρ x = true) (hit : EV w base n env.scope ρ iter p) (hI : IT w p items)
    (htest : ∀ q ∈ items, TVs w base n (relab scope env.scope) ((x, q) :: capt (relab scope env.scope) ρ) ifs (sel q))
    (helt : ∀ q ∈ items, sel q = true → EV w base n (relab scope env.scope) ((x, q) :: capt (relab scope env.scope) ρ) elt (f q))
    (hz : items.length ≤ sizeLine) (hs : ∀ x, foldedSetIterable iter env x = pure x) (G : Good base n A env g ρ s.heap)
    (hfin : ∀ D C h' tk g' m', Step g g' s.heap h' → Rep g' (.list ((items.filter sel).map f)) (.ref D) → h'.Ns C m' → g' C = Option.none → s.heap.get? C = Option.none → compPost (MD w) A E use Q (.ref D) C (.ok .next) { s with heap := h', toks := tk }) :
    wpAny (MD w) A (comprehension (.ListComp elt [⟨.Name x px, iter, ifs, 0⟩] scope pos) scope env pos' (newList []) false (eval iter env) use) Q E s := by
  have hok' := hok
  simp only [compOk, Bool.and_eq_true] at hok'
  obtain ⟨⟨⟨⟨k1, k2⟩, k3⟩, k4⟩, k5⟩ := hok'
  have hcl : ∀ p ∈ scope.names, p.2 = .free → (env.cells.lookup p.1).isSome = true := fun p hp hf => by
    have := List.all_eq_true.mp k5 p hp
    rw [hf] at this
    simp only [bne_self_eq_false, Bool.false_or, Bool.and_eq_true] at this
    obtain ⟨v, hv⟩ := Option.isSome_iff_exists.mp this.1
    obtain ⟨pv, hh, _⟩ := G.names _ _ hv
    rcases hh with ⟨z, _⟩ | ⟨z, c, o, b1, _⟩
    · have z' : env.scope.names.lookup p.1 = some .local := z
      rw [eq_of_beq this.2] at z'; cases z'
    · rw [b1]; rfl
  refine wpAny_comprehension_free (use := use) rfl hs (closureFor_eq hcl) (eq_of_beq k1) (fun p hp hl => by have := List.all_eq_true.mp k4 p hp; rw [eq_of_beq this, hl]) ?_
  refine hit A env g s rfl G _ _ fun xv h₁ tk₁ g₁ st₁ rx => ?_
  have G₁ := G.step st₁
  refine hI A g₁ _ xv _ _ G.ok.handled st₁.sub rx fun I fp wr P St h₂ W st ext hfp hwr hfg hP hSt hIw => ?_
  refine wpAny_newObj_type (wpAny_newFunctionEnv (fun y hy => by have := List.all_eq_true.mp k2 y hy; simpa using this) (by intro y hy; simp at hy) (fun h₃ hns₃ hsb₃ => ?_) (eq_of_beq k1))
  dsimp only at hns₃ hsb₃ ⊢
  generalize hH : h₂.push { cls := .type "list", dict := Option.none, data := .seq ([] : List Value).toArray } = H2 at hns₃ hsb₃ ⊢
  have hlt : h₂.objs.size < H2.objs.size := by rw [← hH, Heap.size_push]; exact Nat.lt_succ_self _
  have old : ∀ b o, h₂.get? b = some o → h₃.get? b = some o := fun b o e => hsb₃.extBut b o (Nat.ne_of_lt (Nat.lt_trans (Heap.lt_size e) hlt)) (Heap.get?_push_of_some _ (hH ▸ Heap.get?_push_of_some _ e))
  have hnone : ∀ b, h₂.objs.size ≤ b → h₁.get? b = Option.none := fun b hb => by
    cases q : h₁.get? b with
    | none => rfl
    | some o => exact absurd (Heap.lt_size (ext b o q)) (Nat.not_lt.mpr hb)
  have hDf : h₂.objs.size ∉ fp := fun hm => Nat.lt_irrefl _ (hfp _ hm)
  have hCf : H2.objs.size ∉ fp := fun hm => Nat.lt_irrefl _ (Nat.lt_trans hlt (hfp _ hm))
  have hacc : h₃.PlainList h₂.objs.size #[] := ⟨_, hsb₃.extBut _ _ (Nat.ne_of_lt hlt) (Heap.get?_push_of_some _ (hH ▸ Heap.get?_push_size _ rfl))⟩
  have loop : codeAny (MD w) A (.compLoop (.ListComp elt [⟨.Name x px, iter, ifs, 0⟩] scope pos) 0 (.ref I) (.ref h₂.objs.size) (compEnvC scope (cellsFor env scope.names []) H2.objs.size env))
      (compPost (MD w) A E use Q (.ref h₂.objs.size) H2.objs.size) { s with heap := h₃, toks := tk₁ + ([] : List (Str × Value)).length } := by
    refine comp_loop (scope := relab scope env.scope) (base := base) (n := n) (ρ' := fun q => (x, q) :: capt (relab scope env.scope) ρ) sel f (cenv := compEnvC scope (cellsFor env scope.names []) H2.objs.size env) (H := h₁) (g := g₁) W hP (fun i h st b hb => let ⟨o, _, vs, e, _, e3, _⟩ := hSt i h st b hb; ⟨o, vs, e, e3⟩) hfg rfl (relab_local (eq_of_beq k3) env) (eq_of_beq k1)
      (fun h g' q v m e1 e0 e2 e3 e4 e5 e6 => comp_good hok G₁ e1 e0 e2 e3 e4 e5 e6) htest helt (Nat.ne_of_lt hlt) hDf hCf (hnone _ (Nat.le_refl _)) (hnone _ (Nat.le_of_lt hlt)) hwr hz st₁.sub (fun b o e => old b o (ext b o e)) (W.frame _ _ _ st fun b _ o e => old b o e) hacc _ hns₃ ?_
    intro h' tk g' m' ys stp gD gC hpl hrep hns
    obtain ⟨k, hk⟩ := hpl
    have gC' : g' H2.objs.size = Option.none := gC
    have stp' : Step g₁ (fun b => if b = h₂.objs.size then some { cls := .type "list", data := .seq ys k } else g' b) h₁ h' := by
      refine ⟨stp.ext, fun b o e => ?_, fun b o e => ?_, fun b o e => ?_⟩
      · have hne : b ≠ h₂.objs.size := fun z => by rw [z] at e; rw [stp.grow _ _ e] at gD; cases gD
        simp only [hne, if_false]; exact stp.grow b o e
      · by_cases hb : b = h₂.objs.size
        · exact .inr (hb ▸ hnone _ (Nat.le_refl _))
        · simp only [hb, if_false] at e; exact stp.new b o e
      · by_cases hb : b = h₂.objs.size
        · subst hb; simp only [if_true] at e; cases e; exact hk
        · simp only [hb, if_false] at e
          exact stp.sub b o e
    refine hfin _ _ h' tk _ m' (st₁.trans stp') ?_ hns ?_ ?_
    · simp only [Rep]
      refine ⟨_, { cls := .type "list", data := .seq ys k }, k, ys, rfl, if_pos rfl, rfl, rfl, hrep.mono fun b o e => ?_⟩
      have hne : b ≠ h₂.objs.size := fun z => by rw [z, gD] at e; cases e
      simp only [hne, if_false]; exact e
    · have hne : H2.objs.size ≠ h₂.objs.size := Nat.ne_of_gt hlt
      show (if H2.objs.size = h₂.objs.size then _ else _) = _
      rw [if_neg hne]; exact gC'
    · have hn1 := hnone H2.objs.size (Nat.le_of_lt hlt)
      cases q : s.heap.get? H2.objs.size with
      | none => rfl
      | some o => obtain ⟨o', z⟩ := st₁.ext.ex ⟨o, q⟩; rw [hn1] at z; cases z
  exact codeAny_compStart_list loop (W.self 0 _ _ _ (W.frame _ _ _ st fun b _ o e => old b o e) loop)

theorem EV.comp {elt iter : Expr} {x : Str} {px pos : Pos} {ifs : List Expr} {scope : Scope} {p : PV} {items : List PV} (sel : PV → Bool) (f : PV → PV) (hok : compOk scope sc ρ x = true)
    (hit : EV w base n sc ρ iter p) (hI : IT w p items)
    (htest : ∀ q ∈ items, TVs w base n (relab scope sc) ((x, q) :: capt (relab scope sc) ρ) ifs (sel q))
    (helt : ∀ q ∈ items, sel q = true → EV w base n (relab scope sc) ((x, q) :: capt (relab scope sc) ρ) elt (f q))
    (hz : items.length ≤ sizeLine) (hs : ∀ env x, foldedSetIterable iter env x = pure x := by intro _ _; rfl) :
    EV w base n sc ρ (.ListComp elt [⟨.Name x px, iter, ifs, 0⟩] scope pos) (.list ((items.filter sel).map f)) := fun A env g s he G Q E hq => by
  subst he
  rw [eval_ListComp]
  refine comp_core sel f Option.none hok hit hI htest helt hz (hs env) G ?_
  intro D C h' tk g' m' st rD hn gC hC
  exact ⟨m', hn, fun h'' hs'' => hq _ h'' tk g' ⟨st.ext.then fun b o ⟨o', e⟩ => hs''.extBut b o (fun z => by rw [z, hC] at e; cases e), st.grow, st.new, fun b o e => hs''.extBut b o (fun z => by rw [z, gC] at e; cases e) (st.sub b o e)⟩ rD⟩
end
end Mine
end
section
open PySem PySem.W PyProof.Rows PySem.Calls PySem.SeqAt
namespace Mine

noncomputable abbrev Ow := Option (Str × List PV)
/-- the state of an activation between two statements -/
structure GS (base : Heap) (n : Nat) (A : Around) (env : Env) (h₀ : Heap) (g₀ g : Gh) (ρ : Rho) (ow : Ow) (h : Heap) : Prop where
  good : Good base n A env g ρ h
  keep : Soft h₀ h
  grow : ∀ b o, g₀ b = some o → g b = some o
  new : ∀ b o, g b = some o → g₀ b = some o ∨ h₀.get? b = none
  loc : g env.locals = none ∧ h₀.get? env.locals = none ∧ ∃ m, h.Ns env.locals m
  cel : ∀ x, env.kindOf x = some .cell → ∃ c v, env.cells.lookup x = some c ∧ h.IsCell c v ∧ g c = none ∧ h₀.get? c = none
  inj : ∀ x y c, env.cells.lookup x = some c → env.cells.lookup y = some c → x = y
  own : ∀ x l, ow = some (x, l) → ∃ a items, Held h env x (.ref a) ∧ h.PlainList a items ∧ RepL g l items.toList ∧ g a = none ∧ h₀.get? a = none

theorem GS.step {base : Heap} {n : Nat} {A : Around} {env : Env} {h₀ : Heap} {g₀ g g' : Gh} {ρ : Rho} {ow : Ow} {h h' : Heap} (k : GS base n A env h₀ g₀ g ρ ow h) (s : Step g g' h h') : GS base n A env h₀ g₀ g' ρ ow h' := by
  have nn : ∀ b, g b = none → (∃ o, h.get? b = some o) → g' b = none := fun b => s.noNew
  refine ⟨k.good.step s, k.keep.trans s.ext, fun b o e => s.grow b o (k.grow b o e), fun b o e => (s.new b o e).elim (k.new b o) fun z => .inr (k.keep.none z), ?_, ?_, k.inj, ?_⟩
  · obtain ⟨a, b, m, c⟩ := k.loc
    exact ⟨nn _ a (by obtain ⟨o, _, _, e, _⟩ := c; exact ⟨o, e⟩), b, m, s.ext.ns c⟩
  · intro x hx
    obtain ⟨c, v, h1, h2, h3, h4⟩ := k.cel x hx
    obtain ⟨o, ho, hd⟩ := id h2
    exact ⟨c, v, h1, s.ext.isCell h2, nn _ h3 ⟨o, ho⟩, h4⟩
  · intro x l e
    obtain ⟨a, items, h1, h2, h3, h4, h5⟩ := k.own x l e
    exact ⟨a, items, h1.ext s.ext, s.ext.plain h2, h3.mono s.grow, nn _ h4 (by obtain ⟨k, e⟩ := h2; exact ⟨_, e⟩), h5⟩

theorem lookup_cons_ne {x y : Str} {v : PV} {ρ : Rho} (h : y ≠ x) : List.lookup y ((x, v) :: ρ) = ρ.lookup y := by
  rw [List.lookup_cons]
  have : (y == x) = false := by simpa using h
  rw [this]

/-- the names but one -/
noncomputable def del (x : Str) (ρ : Rho) : Rho := ρ.filter fun e => e.1 != x
theorem del_lookup {x y : Str} {v : PV} : ∀ {ρ : Rho}, (del x ρ).lookup y = some v → ρ.lookup y = some v ∧ y ≠ x
  | [], h => by simp [del] at h
  | (z, u) :: r, h => by
    unfold del at h
    rw [List.filter_cons] at h
    by_cases hz : (z != x) = true
    · rw [if_pos hz, List.lookup_cons] at h
      rw [List.lookup_cons]
      by_cases e : (y == z) = true
      · rw [e] at h ⊢
        exact ⟨h, by rw [eq_of_beq e]; simpa using hz⟩
      · simp only [e] at h ⊢
        exact del_lookup (ρ := r) h
    · rw [if_neg hz] at h
      have ih := del_lookup (ρ := r) h
      refine ⟨?_, ih.2⟩
      rw [List.lookup_cons]
      have hzx : z = x := by simpa using hz
      have : (y == z) = false := by rw [hzx]; simpa using ih.2
      rw [this]; exact ih.1

section
variable {w : World} {base : Heap} {n : Nat} {sc : Scope} {ρ : Rho} {GL : Str → Option Value}

theorem Held.other {h h' : Heap} {env : Env} {a : Addr} {y : Str} {u : Value} (k : Held h env y u) (hs : Heap.SameBut a h h') (hl : env.kindOf y = some .local → env.locals ≠ a) (hc : ∀ c, env.kindOf y = some .cell → env.cells.lookup y = some c → c ≠ a) : Held h' env y u := by
  rcases k with ⟨p, m, q, r⟩ | ⟨p, c, o, q, r, t⟩
  · exact .inl ⟨p, m, q.sameBut hs (hl p), r⟩
  · exact .inr ⟨p, c, o, q, hs.extBut c o (hc c p q) r, t⟩

theorem Ns_unique {h : Heap} {a : Addr} {m m' : Str → Option Value} (k : h.Ns a m) (k' : h.Ns a m') (x : Str) : m x = m' x := by
  obtain ⟨o, es, ep, h1, h2, h3, h4⟩ := k
  obtain ⟨o', es', ep', h1', h2', h3', h4'⟩ := k'
  rw [h1] at h1'; cases h1'
  rw [h2] at h2'; cases h2'
  rw [← h4, ← h4']

/-- what stands behind a change of one object of the activation's own, at address a -/
theorem GS.change {A : Around} {env : Env} {h₀ : Heap} {g₀ g : Gh} {ow : Ow} {h h' : Heap} {x : Str} {a : Addr} (k : GS base n A env h₀ g₀ g ρ ow h) (hs : Heap.SameBut a h h') (ga : g a = none) (h₀a : h₀.get? a = none)
    (hd : ∀ o es ep, h.get? a = some o → o.data = .dict es ep → ∃ o' es' ep', h'.get? a = some o' ∧ o'.data = .dict es' ep') (hn : ∃ m, h'.Ns env.locals m) (hc : ∀ y c v, env.kindOf y = some .cell → env.cells.lookup y = some c → h.IsCell c v → ∃ v', h'.IsCell c v')
    (hh : ∀ y u, y ≠ x → Held h env y u → Held h' env y u) (ow' : Ow) (how : ∀ y l, ow' = some (y, l) → ow = some (y, l) ∧ y ≠ x ∧ ∀ b items, h.PlainList b items → b ≠ a) : GS base n A env h₀ g₀ g (del x ρ) ow' h' := by
  have up : ∀ b o, b ≠ a → h.get? b = some o → h'.get? b = some o := fun b o hb e => hs.extBut b o hb e
  refine ⟨⟨⟨fun b o e => up b o (fun z => by rw [z, ga] at e; cases e) (k.good.ok.sub b o e), k.good.ok.gb, k.good.ok.handled, k.good.ok.depth, k.good.ok.units, ?_⟩, k.good.envok, ?_⟩, ?_, k.grow, k.new, ?_, ?_, k.inj, ?_⟩
  · obtain ⟨l, e1, e2⟩ := k.good.ok.frames
    refine ⟨l, e1, e2.upd (fun b o es ep e hf => ?_) fun b e _ => e⟩
    by_cases hb : b = a
    · subst hb; exact hd o es ep e hf
    · exact ⟨o, es, ep, up b o hb e, hf⟩
  · intro y v hy
    obtain ⟨h1, h2⟩ := del_lookup hy
    obtain ⟨pv, q1, q2⟩ := k.good.names y v h1
    exact ⟨pv, hh y pv h2 q1, q2⟩
  · exact k.keep.then fun b o ⟨o', e⟩ => up b o (fun z => by rw [z, h₀a] at e; cases e)
  · exact ⟨k.loc.1, k.loc.2.1, hn⟩
  · intro y hy
    obtain ⟨c, v, h1, h2, h3, h4⟩ := k.cel y hy
    obtain ⟨v', h2'⟩ := hc y c v hy h1 h2
    exact ⟨c, v', h1, h2', h3, h4⟩
  · intro y l e
    obtain ⟨e1, e2, e3⟩ := how y l e
    obtain ⟨b, items, h1, h2, h3, h4, h5⟩ := k.own y l e1
    exact ⟨b, items, hh y _ e2 h1, h2.extBut hs.extBut (e3 b items h2), h3, h4, h5⟩

/-- a store of a value under a name of the activation's own -/
theorem GS.store {A B : Around} {env : Env} {h₀ : Heap} {g₀ g : Gh} {ow : Ow} {s : Shared} {x : Str} {pv : Value} {Q : Unit → Shared → Prop} {E : Value → Shared → Prop} (k : GS base n A env h₀ g₀ g ρ ow s.heap)
    (hx : env.kindOf x = some .local ∨ env.kindOf x = some .cell)
    (h : ∀ h' tk a, Heap.SameBut a s.heap h' → g a = none → (∀ b items, s.heap.PlainList b items → b ≠ a) → (∃ o, s.heap.get? a = some o ∧ ∀ vs, o.data ≠ .fields vs) → (a = env.locals ∨ ∃ z, env.kindOf z = some .cell ∧ env.cells.lookup z = some a) → (∀ o es ep, s.heap.get? a = some o → o.data = .dict es ep → ∃ o' es' ep', h'.get? a = some o' ∧ o'.data = .dict es' ep') → Held h' env x pv → (∀ ow' : Ow, (∀ y l, ow' = some (y, l) → ow = some (y, l) ∧ y ≠ x) → GS base n A env h₀ g₀ g (del x ρ) ow' h') → Q () { s with heap := h', toks := tk }) : wpAny (MD w) B (storeName env x pv) Q E s := by
  obtain ⟨gL, h₀L, m, hm⟩ := k.loc
  have ndict : ∀ b items, s.heap.PlainList b items → b ≠ env.locals := by
    rintro b items ⟨j, e⟩ z
    obtain ⟨o, es, ep, e1, e2, _⟩ := hm
    rw [z, e1] at e; cases e; cases e2
  have cellne : ∀ c v, s.heap.IsCell c v → c ≠ env.locals := by
    rintro c v ⟨o', e, e'⟩ z
    obtain ⟨o, es, ep, e1, e2, _⟩ := hm
    rw [z, e1] at e; cases e; rw [e2] at e'; cases e'
  rcases hx with hx | hx
  · refine wpAny_storeName_local hx hm (fun h' hn hs => ?_) (by rw [k.good.envok.kind]; rfl)
    refine h h' _ env.locals hs gL ndict (by obtain ⟨o, es, ep, e, e', _⟩ := hm; exact ⟨o, e, fun vs z => by rw [e'] at z; cases z⟩) (.inl rfl) (by obtain ⟨o, es, ep, e1, e2, _⟩ := hn; exact fun _ _ _ _ _ => ⟨o, es, ep, e1, e2⟩) (.inl ⟨hx, _, hn, by simp⟩) fun ow' how => k.change (x := x) hs gL h₀L ?_ ⟨_, hn⟩ ?_ ?_ ow' fun y l e => ⟨(how y l e).1, (how y l e).2, ndict⟩
    · obtain ⟨o, es, ep, e1, e2, _⟩ := hn
      exact fun _ _ _ _ _ => ⟨o, es, ep, e1, e2⟩
    · rintro y c v hy hc ⟨o, e, e'⟩
      exact ⟨v, o, hs.extBut c o (cellne c v ⟨o, e, e'⟩) e, e'⟩
    · rintro y u hyx (⟨p, m', q, r⟩ | ⟨p, c, o, q, r, t⟩)
      · refine .inl ⟨p, _, hn, ?_⟩
        simp only [hyx, if_false]
        rw [Ns_unique hm q y]; exact r
      · exact .inr ⟨p, c, o, q, hs.extBut c o (cellne c _ ⟨o, r, t⟩) r, t⟩
  · obtain ⟨c, v, hc, hv, gc, h₀c⟩ := k.cel x hx
    refine wpAny_storeName_cell k.good.envok.kind hx hc hv fun h' hv' hs => ?_
    have nlist : ∀ b items, s.heap.PlainList b items → b ≠ c := by
      rintro b items ⟨j, e⟩ z
      obtain ⟨o, e1, e2⟩ := hv
      rw [z, e1] at e; cases e; cases e2
    have hLc : env.locals ≠ c := fun z => cellne c v hv z.symm
    refine h h' s.toks c hs gc nlist (by obtain ⟨o, e, e'⟩ := hv; exact ⟨o, e, fun vs z => by rw [e'] at z; cases z⟩) (.inr ⟨x, hx, hc⟩) (by obtain ⟨o, e1, e2⟩ := hv; exact fun o' es ep q1 q2 => by rw [e1] at q1; cases q1; rw [e2] at q2; cases q2) (by obtain ⟨o, e1, e2⟩ := hv'; exact .inr ⟨hx, c, o, hc, e1, e2⟩) fun ow' how => k.change (x := x) hs gc h₀c ?_ ⟨m, hm.sameBut hs hLc⟩ ?_ ?_ ow' fun y l e => ⟨(how y l e).1, (how y l e).2, nlist⟩
    · obtain ⟨o, e1, e2⟩ := hv
      exact fun o' es ep q1 q2 => by rw [e1] at q1; cases q1; rw [e2] at q2; cases q2
    · rintro y c' v' hy hc' ⟨o, e, e'⟩
      by_cases hcc : c' = c
      · subst hcc; exact ⟨_, hv'⟩
      · exact ⟨v', o, hs.extBut c' o hcc e, e'⟩
    · rintro y u hyx (⟨p, m', q, r⟩ | ⟨p, c', o, q, r, t⟩)
      · exact .inl ⟨p, m', q.sameBut hs hLc, r⟩
      · exact .inr ⟨p, c', o, q, hs.extBut c' o (fun z => hyx (k.inj y x c (z ▸ q) hc)) r, t⟩

/-- an object that is none of the activation's has changed -/
theorem GS.elsewhere {A : Around} {env : Env} {h₀ : Heap} {g₀ g : Gh} {ow : Ow} {h h' : Heap} {C : Addr} (k : GS base n A env h₀ g₀ g ρ ow h) (hs : Heap.SameBut C h h') (gC : g C = none) (h₀C : h₀.get? C = none) (hl : env.locals ≠ C) (hc : ∀ z, env.kindOf z = some .cell → env.cells.lookup z ≠ some C)
    (ho : ∀ b items, h.PlainList b items → b ≠ C) (hf : ∃ outer, A.frames = some outer ∧ FrOk base g h' outer) : GS base n A env h₀ g₀ g ρ ow h' := by
  have up : ∀ b o, b ≠ C → h.get? b = some o → h'.get? b = some o := fun b o hb e => hs.extBut b o hb e
  have hh : ∀ y u, Held h env y u → Held h' env y u := by
    rintro y u (⟨p, m', q, r⟩ | ⟨p, c, o, q, r, t⟩)
    · exact .inl ⟨p, m', q.sameBut hs hl, r⟩
    · exact .inr ⟨p, c, o, q, up c o (fun z => hc y p (z ▸ q)) r, t⟩
  refine ⟨⟨⟨fun b o e => up b o (fun z => by rw [z, gC] at e; cases e) (k.good.ok.sub b o e), k.good.ok.gb, k.good.ok.handled, k.good.ok.depth, k.good.ok.units, hf⟩, k.good.envok, fun y v hy => let ⟨pv, a, b⟩ := k.good.names y v hy; ⟨pv, hh y pv a, b⟩⟩, k.keep.then fun b o ⟨o', e⟩ => up b o (fun z => by rw [z, h₀C] at e; cases e), k.grow, k.new, ⟨k.loc.1, k.loc.2.1, let ⟨m, hm⟩ := k.loc.2.2; ⟨m, hm.sameBut hs hl⟩⟩, fun y hy => ?_, k.inj, fun y l e => ?_⟩
  · obtain ⟨c, v, h1, ⟨o, q1, q2⟩, h3, h4⟩ := k.cel y hy
    exact ⟨c, v, h1, ⟨o, up c o (fun z => hc y hy (z ▸ h1)) q1, q2⟩, h3, h4⟩
  · obtain ⟨b, items, h1, h2, h3, h4, h5⟩ := k.own y l e
    exact ⟨b, items, hh y _ h1, h2.extBut hs.extBut (ho b items h2), h3, h4, h5⟩

/-- the name now holds v -/
theorem GS.put {A : Around} {env : Env} {h₀ : Heap} {g₀ g : Gh} {ow : Ow} {h : Heap} {x : Str} {v : PV} {pv : Value} (k : GS base n A env h₀ g₀ g (del x ρ) ow h) (hh : Held h env x pv) (hr : Rep g v pv) : GS base n A env h₀ g₀ g ((x, v) :: ρ) ow h :=
  ⟨⟨k.good.ok, k.good.envok, fun y u hy => by
    by_cases e : y = x
    · subst e
      rw [List.lookup_cons, BEq.rfl] at hy
      cases hy
      exact ⟨pv, hh, hr⟩
    · rw [lookup_cons_ne e] at hy
      have : (del x ρ).lookup y = some u := by
        have key : ∀ (l : Rho), (del x l).lookup y = l.lookup y := by
          intro l
          induction l with
          | nil => rfl
          | cons p r ih =>
            obtain ⟨z, q⟩ := p
            unfold del
            rw [List.filter_cons]
            by_cases hz : (z != x) = true
            · rw [if_pos hz, List.lookup_cons, List.lookup_cons]
              split <;> first | rfl | exact ih
            · rw [if_neg hz, List.lookup_cons]
              have hzx : z = x := by simpa using hz
              have : (y == z) = false := by rw [hzx]; simpa using e
              rw [this]; exact ih
        rw [key]; exact hy
      exact k.good.names y u this⟩, k.keep, k.grow, k.new, k.loc, k.cel, k.inj, k.own⟩
end
end Mine
end
section
open PySem PySem.W PyProof.Rows PySem.Calls PySem.SeqAt
namespace Mine

/-- objects of records stay, and what is not of the ghost stays out of it -/
noncomputable def KF (g g' : Gh) (h h' : Heap) : Prop := ∀ b o vs, h.get? b = some o → o.data = .fields vs → h'.get? b = some o ∧ (g b = none → g' b = none)
theorem KF.refl (g : Gh) (h : Heap) : KF g g h h := fun _ _ _ e _ => ⟨e, id⟩
theorem KF.trans {g g' g'' : Gh} {h h' h'' : Heap} (a : KF g g' h h') (b : KF g' g'' h' h'') : KF g g'' h h'' := fun x o vs e f => ⟨(b x o vs (a x o vs e f).1 f).1, fun q => (b x o vs (a x o vs e f).1 f).2 ((a x o vs e f).2 q)⟩
theorem KF.of {g g' : Gh} {h h' : Heap} (s : Step g g' h h') : KF g g' h h' := fun b o vs e hf => ⟨s.ext.fields e hf, fun q => by
  cases hb : g' b with
  | none => rfl
  | some o' =>
    rcases s.new b o' hb with z | z
    · rw [q] at z; cases z
    · rw [e] at z; cases z⟩

inductive Out where
  | next (ρ : Rho) (ow : Ow)
  | brk (ρ : Rho) (ow : Ow)
  | ret (v : PV)
noncomputable def OutOk (base : Heap) (n : Nat) (A : Around) (env : Env) (h₀ : Heap) (g₀ g : Gh) (h : Heap) : Out → Flow → Gh → Heap → Prop
  | .next ρ ow, fl, g', h' => fl = .next ∧ GS base n A env h₀ g₀ g' ρ ow h' ∧ (∀ b o, g b = some o → g' b = some o) ∧ KF g g' h h'
  | .brk ρ ow, fl, g', h' => fl = .brk ∧ GS base n A env h₀ g₀ g' ρ ow h' ∧ (∀ b o, g b = some o → g' b = some o) ∧ KF g g' h h'
  | .ret v, fl, g', h' => ∃ pv, fl = .ret pv ∧ Step g₀ g' h₀ h' ∧ Rep g' v pv
theorem OutOk.from {base : Heap} {n : Nat} {A : Around} {env : Env} {h₀ : Heap} {g₀ g g₁ : Gh} {h h₁ : Heap} (hg : ∀ b o, g b = some o → g₁ b = some o) (hk : KF g g₁ h h₁) : ∀ {out : Out} {fl : Flow} {g' : Gh} {h' : Heap}, OutOk base n A env h₀ g₀ g₁ h₁ out fl g' h' → OutOk base n A env h₀ g₀ g h out fl g' h'
  | .next _ _, _, _, _, ⟨a, b, c, d⟩ => ⟨a, b, fun x o e => c x o (hg x o e), hk.trans d⟩
  | .brk _ _, _, _, _, ⟨a, b, c, d⟩ => ⟨a, b, fun x o e => c x o (hg x o e), hk.trans d⟩
  | .ret _, _, _, _, x => x

section
variable (w : World) (base : Heap) (n : Nat)
noncomputable def SX (sc : Scope) (ρ : Rho) (ow : Ow) (st : Stmt) (out : Out) : Prop :=
  ∀ (A : Around) (env : Env) (h₀ : Heap) (g₀ g : Gh) (s : Shared), env.scope = sc → GS base n A env h₀ g₀ g ρ ow s.heap → ∀ (Q : Flow → Shared → Prop) (E : Value → Shared → Prop),
    (∀ fl h' tk g', OutOk base n A env h₀ g₀ g s.heap out fl g' h' → Q fl { s with heap := h', toks := tk }) → wpAny (MD w) A (exec st env) Q E s
noncomputable def SXs (sc : Scope) (ρ : Rho) (ow : Ow) (sts : List Stmt) (out : Out) : Prop :=
  ∀ (A : Around) (env : Env) (h₀ : Heap) (g₀ g : Gh) (s : Shared), env.scope = sc → GS base n A env h₀ g₀ g ρ ow s.heap → ∀ (Q : Flow → Shared → Prop) (E : Value → Shared → Prop),
    (∀ fl h' tk g', OutOk base n A env h₀ g₀ g s.heap out fl g' h' → Q fl { s with heap := h', toks := tk }) → wpAny (MD w) A (execs sts env) Q E s
/-- a target takes a value -/
noncomputable def AS (sc : Scope) (ρ : Rho) (ow : Ow) (t : Expr) (q : PV) (ρ' : Rho) : Prop :=
  ∀ (A : Around) (env : Env) (h₀ : Heap) (g₀ g : Gh) (s : Shared) (x : Value), env.scope = sc → GS base n A env h₀ g₀ g ρ ow s.heap → Rep g q x → ∀ (Q : Unit → Shared → Prop) (E : Value → Shared → Prop),
    (∀ h' tk, GS base n A env h₀ g₀ g ρ' ow h' → KF g g s.heap h' → Q () { s with heap := h', toks := tk }) → wpAny (MD w) A (assign t env x) Q E s
end

section
variable {w : World} {base : Heap} {n : Nat} {sc : Scope} {ρ ρ' : Rho} {ow ow' : Ow} {GL : Str → Option Value}

theorem SXs.nil : SXs w base n sc ρ ow [] (.next ρ ow) := fun A env h₀ g₀ g s hs G Q E hq => wpAny_execs_nil (hq _ s.heap s.toks g ⟨rfl, G, fun _ _ e => e, KF.refl _ _⟩)
theorem SXs.cons {st : Stmt} {rest : List Stmt} {out : Out} (h : SX w base n sc ρ ow st (.next ρ' ow')) (hr : SXs w base n sc ρ' ow' rest out) : SXs w base n sc ρ ow (st :: rest) out :=
  fun A env h₀ g₀ g s hs G Q E hq => wpAny_execs_cons (h A env h₀ g₀ g s hs G _ _ fun fl h' tk g' ok => by
    obtain ⟨rfl, G', hg, hk⟩ := ok
    exact hr A env h₀ g₀ g' _ hs G' _ _ fun fl h'' tk' g'' ok' => hq fl h'' tk' g'' (ok'.from hg hk))
theorem SXs.ret {st : Stmt} {rest : List Stmt} {v : PV} (h : SX w base n sc ρ ow st (.ret v)) : SXs w base n sc ρ ow (st :: rest) (.ret v) :=
  fun A env h₀ g₀ g s hs G Q E hq => wpAny_execs_cons (h A env h₀ g₀ g s hs G _ _ fun fl h' tk g' ok => by
    obtain ⟨pv, rfl, a, b⟩ := ok
    exact hq _ h' tk g' ⟨pv, rfl, a, b⟩)
theorem SXs.brk {st : Stmt} {rest : List Stmt} (h : SX w base n sc ρ ow st (.brk ρ' ow')) : SXs w base n sc ρ ow (st :: rest) (.brk ρ' ow') :=
  fun A env h₀ g₀ g s hs G Q E hq => wpAny_execs_cons (h A env h₀ g₀ g s hs G _ _ fun fl h' tk g' ok => by
    obtain ⟨rfl, a, b, c⟩ := ok
    exact hq _ h' tk g' ⟨rfl, a, b, c⟩)
theorem SX.brk {pos : Pos} : SX w base n sc ρ ow (.Break pos) (.brk ρ ow) := fun A env h₀ g₀ g s hs G Q E hq => wpAny_Break (hq _ s.heap s.toks g ⟨rfl, G, fun _ _ e => e, KF.refl _ _⟩)
theorem GS.stepOf {A : Around} {env : Env} {h₀ : Heap} {g₀ g g' : Gh} {h h' : Heap} (k : GS base n A env h₀ g₀ g ρ ow h) (s : Step g g' h h') : Step g₀ g' h₀ h' :=
  let k' := k.step s
  ⟨k'.keep, k'.grow, k'.new, s.sub⟩
theorem SX.ret {e : Expr} {pos : Pos} {v : PV} (h : EV w base n sc ρ e v) : SX w base n sc ρ ow (.Return (some e) pos) (.ret v) :=
  fun A env h₀ g₀ g s hs G Q E hq => wpAny_Return_some (h A env g s hs G.good _ _ fun pv h' tk g' st rv => hq _ h' tk g' ⟨pv, rfl, G.stepOf st, rv⟩)
theorem SX.ite {test : Expr} {body orelse : List Stmt} {pos : Pos} {b : Bool} {out : Out} (ht : TV w base n sc ρ test b) (h1 : b = true → SXs w base n sc ρ ow body out) (h2 : b = false → SXs w base n sc ρ ow orelse out) : SX w base n sc ρ ow (.If test body orelse pos) out :=
  fun A env h₀ g₀ g s hs G Q E hq => wpAny_If (ht A env g s hs G.good _ _ fun h' tk g' st => by
    cases b with
    | true => exact h1 rfl A env h₀ g₀ g' _ hs (G.step st) _ _ fun fl h'' tk' g'' ok => hq fl h'' tk' g'' (ok.from st.grow (KF.of st))
    | false => exact h2 rfl A env h₀ g₀ g' _ hs (G.step st) _ _ fun fl h'' tk' g'' ok => hq fl h'' tk' g'' (ok.from st.grow (KF.of st)))
theorem GS.freeze {A : Around} {env : Env} {h₀ : Heap} {g₀ g : Gh} {h : Heap} {x : Str} {l : List PV} (G : GS base n A env h₀ g₀ g ρ (some (x, l)) h) : ∃ g' : Gh, (∀ b o, g b = some o → g' b = some o) ∧ KF g g' h h ∧ GS base n A env h₀ g₀ g' ((x, .list l) :: ρ) none h := by
  obtain ⟨a, items, h1, ⟨k, h2⟩, h3, h4, h5⟩ := G.own x l rfl
  let g' : Gh := fun b => if b = a then some { cls := .type "list", data := .seq items k } else g b
  have hgr : ∀ b o, g b = some o → g' b = some o := fun b o e => by
    have : b ≠ a := fun z => by rw [z, h4] at e; cases e
    show (if b = a then _ else g b) = _
    rw [if_neg this]; exact e
  have hinv : ∀ b o, g' b = some o → (b = a ∧ o = { cls := .type "list", data := .seq items k }) ∨ g b = some o := fun b o e => by
    by_cases hb : b = a
    · left
      have e' : (if b = a then some ({ cls := .type "list", data := .seq items k } : Obj) else g b) = some o := e
      rw [if_pos hb] at e'
      exact ⟨hb, (Option.some.inj e').symm⟩
    · right
      have e' : (if b = a then some ({ cls := .type "list", data := .seq items k } : Obj) else g b) = some o := e
      rw [if_neg hb] at e'; exact e'
  have hne : ∀ b, b ≠ a → g b = none → g' b = none := fun b hb e => by
    show (if b = a then _ else g b) = _
    rw [if_neg hb]; exact e
  have hla : env.locals ≠ a := fun z => by
    obtain ⟨_, _, m, o, es, ep, e1, e2, _⟩ := G.loc
    rw [z, h2] at e1; cases e1; cases e2
  have G' : GS base n A env h₀ g₀ g' ((x, .list l) :: ρ) none h := by
    refine ⟨⟨⟨fun b o e => ?_, fun b o e => hgr b o (G.good.ok.gb b o e), G.good.ok.handled, G.good.ok.depth, G.good.ok.units, ?_⟩, G.good.envok, fun y u hy => ?_⟩, G.keep, fun b o e => hgr b o (G.grow b o e), fun b o e => ?_, ⟨hne _ hla G.loc.1, G.loc.2⟩, fun y hy => ?_, G.inj, fun y l' e => nomatch e⟩
    · rcases hinv b o e with ⟨rfl, rfl⟩ | e
      · exact h2
      · exact G.good.ok.sub b o e
    · obtain ⟨L, f1, f2⟩ := G.good.ok.frames
      refine ⟨L, f1, f2.1, fun env' he => ?_⟩
      obtain ⟨L', o, es, ep, p1, p2, p3, p4⟩ := f2.2 env' he
      exact ⟨L', o, es, ep, p1, p2, p3, hne L' (fun z => by rw [z, h2] at p2; cases p2; cases p3) p4⟩
    · by_cases e : y = x
      · subst e
        rw [List.lookup_cons, BEq.rfl] at hy
        cases hy
        refine ⟨.ref a, h1, ?_⟩
        simp only [Rep]
        exact ⟨a, { cls := .type "list", data := .seq items k }, k, items, rfl, if_pos rfl, rfl, rfl, h3.mono hgr⟩
      · rw [lookup_cons_ne e] at hy
        obtain ⟨pv, p1, p2⟩ := G.good.names y u hy
        exact ⟨pv, p1, p2.mono hgr⟩
    · rcases hinv b o e with ⟨rfl, rfl⟩ | e
      · exact .inr h5
      · exact G.new b o e
    · obtain ⟨c, v, e1, e2, e3, e4⟩ := G.cel y hy
      refine ⟨c, v, e1, e2, hne c (fun z => ?_) e3, e4⟩
      obtain ⟨o, q1, q2⟩ := e2
      rw [z, h2] at q1; cases q1; cases q2
  exact ⟨g', hgr, fun b o vs e e' => ⟨e, fun q => hne b (fun z => by rw [z, h2] at e; cases e; cases e') q⟩, G'⟩
theorem SX.freeze {st : Stmt} {out : Out} {x : Str} {l : List PV} (h : SX w base n sc ((x, .list l) :: ρ) none st out) : SX w base n sc ρ (some (x, l)) st out :=
  fun A env h₀ g₀ g s hs G Q E hq => by
    obtain ⟨g', hgr, hkf, G'⟩ := G.freeze
    exact h A env h₀ g₀ g' s hs G' Q E fun fl h' tk g'' ok => hq fl h' tk g'' (ok.from hgr hkf)

/-- a name that is the block's own, and not the list at work -/
noncomputable def ownName (sc : Scope) (ow : Ow) (x : Str) : Bool := (sc.names.lookup x == some .local || sc.names.lookup x == some .cell) && ow.all fun p => p.1 != x
theorem ownName_kind {env : Env} {x : Str} (h : ownName env.scope ow x = true) : (env.kindOf x = some .local ∨ env.kindOf x = some .cell) ∧ ∀ y l, ow = some (y, l) → y ≠ x := by
  simp only [ownName, Bool.and_eq_true, Bool.or_eq_true] at h
  refine ⟨h.1.imp eq_of_beq eq_of_beq, fun y l e => ?_⟩
  have := h.2
  rw [e] at this
  simpa using this
theorem GS.bind {A B : Around} {env : Env} {h₀ : Heap} {g₀ g : Gh} {s : Shared} {x : Str} {v : PV} {pv : Value} {Q : Unit → Shared → Prop} {E : Value → Shared → Prop} (k : GS base n A env h₀ g₀ g ρ ow s.heap) (hx : ownName env.scope ow x = true) (hr : Rep g v pv)
    (h : ∀ h' tk, GS base n A env h₀ g₀ g ((x, v) :: ρ) ow h' → KF g g s.heap h' → Q () { s with heap := h', toks := tk }) : wpAny (MD w) B (storeName env x pv) Q E s := by
  obtain ⟨kx, ky⟩ := ownName_kind hx
  refine k.store kx fun h' tk a hs ga hl hd ha hd' hh hG => h h' tk ((hG ow fun y l e => ⟨e, ky y l e⟩).put hh hr) fun b o vs e e' => ⟨hs.extBut b o (fun z => ?_) e, id⟩
  obtain ⟨o', q1, q2⟩ := hd
  rw [z, q1] at e; cases e
  exact q2 vs e'
theorem AS.name {x : Str} {pos : Pos} {q : PV} (hx : ownName sc ow x = true) : AS w base n sc ρ ow (.Name x pos) q ((x, q) :: ρ) :=
  fun A env h₀ g₀ g s v hs G rv Q E hq => wpAny_assign_Name (by subst hs; exact G.bind hx rv hq)
theorem SX.assign {x : Str} {p pos : Pos} {value : Expr} {v : PV} (h : EV w base n sc ρ value v) (hx : ownName sc ow x = true) (hsw : ∀ env, env.scope = sc → swapsWith value (some (.Name x p)) pos.line env = pure false := by intros; rfl) : SX w base n sc ρ ow (.Assign [.Name x p] value pos) (.next ((x, v) :: ρ) ow) :=
  fun A env h₀ g₀ g s hs G Q E hq => wpAny_Assign_Name (h A env g s hs G.good _ _ fun pv h' tk g' st rv => by
    have hx' : ownName env.scope ow x = true := by rw [hs]; exact hx
    exact (G.step st).bind (s := { s with heap := h', toks := tk }) hx' rv fun h'' tk' G'' kf => hq _ h'' tk' g' ⟨rfl, G'', st.grow, (KF.of st).trans kf⟩) (hsw env hs)
theorem SX.aug {x : Str} {p pos : Pos} {op : Operator} {value : Expr} {a b v : PV} (ha : ρ.lookup x = some a) (h : EV w base n sc ρ value b) (hp : P2 w base n (inplaceOp op) a b v) (hx : ownName sc ow x = true) : SX w base n sc ρ ow (.AugAssign (.Name x p) op value pos) (.next ((x, v) :: ρ) ow) :=
  fun A env h₀ g₀ g s hs G Q E hq => wpAny_AugAssign_Name (by
    obtain ⟨pa, k1, k2⟩ := G.good.names x a ha
    refine k1.load G.good.envok.kind (h A env g s hs G.good _ _ fun pb h₁ tk₁ g₁ st₁ rb => hp A g₁ _ pa pb (G.step st₁).good.ok (k2.mono st₁.grow) rb _ _ fun pv h₂ tk₂ g₂ st₂ rv => ?_)
    have st := st₁.trans st₂
    have hx' : ownName env.scope ow x = true := by rw [hs]; exact hx
    exact (G.step st).bind (s := { s with heap := h₂, toks := tk₂ }) hx' rv fun h'' tk' G'' kf => hq _ h'' tk' g₂ ⟨rfl, G'', st.grow, (KF.of st).trans kf⟩)
end
end Mine
end
section
open PySem PySem.W PyProof.Rows PySem.Calls PySem.SeqAt
namespace Mine
section
variable {w : World} {base : Heap} {n : Nat} {sc : Scope} {ρ ρ' : Rho} {ow ow' : Ow} {GL : Str → Option Value}

/-- x = [] : the list at work -/
theorem SX.newOwn {x : Str} {p pos lpos : Pos} (hx : (sc.names.lookup x == some .local || sc.names.lookup x == some .cell) = true) : SX w base n sc ρ ow (.Assign [.Name x p] (.List [] lpos) pos) (.next (del x ρ) (some (x, []))) :=
  fun A env h₀ g₀ g s hs G Q E hq => wpAny_Assign_Name (wpAny_List_spliced (spliced_none ⟨by simp [sizeLine], by
    have st := Step.of_ext G.good.ok.sub (h' := s.heap.push { cls := .type "list", data := .seq ([] : List Value).toArray }) fun b o e => Heap.get?_push_of_some _ e
    have G₁ := G.step st
    have hk : env.kindOf x = some .local ∨ env.kindOf x = some .cell := by
      subst hs
      simp only [Bool.or_eq_true] at hx
      exact hx.imp eq_of_beq eq_of_beq
    refine G₁.store (s := { s with heap := s.heap.push { cls := .type "list", data := .seq ([] : List Value).toArray } }) hk fun h' tk a hsb ga hl hd ha hd' hh hG => ?_
    have G₂ := hG none fun y l e => nomatch e
    have hla : s.heap.objs.size ≠ a := hl _ #[] ⟨0, Heap.get?_push_size _ rfl⟩
    have hpl : h'.PlainList s.heap.objs.size #[] := ⟨0, hsb.extBut _ _ hla (Heap.get?_push_size _ rfl)⟩
    refine hq _ h' tk g ⟨rfl, ⟨G₂.good, G₂.keep, G₂.grow, G₂.new, G₂.loc, G₂.cel, G₂.inj, fun y l e => ?_⟩, fun _ _ e => e, ?_⟩
    · cases e
      refine ⟨s.heap.objs.size, #[], hh, hpl, by simp [RepL], sub_none G.good.ok.sub (fresh_size _), G.keep.none (fresh_size _)⟩
    · intro b o vs e e'
      refine ⟨hsb.extBut b o (fun z => ?_) (Heap.get?_push_of_some _ e), id⟩
      obtain ⟨o', q1, q2⟩ := hd
      have : (s.heap.push { cls := .type "list", data := .seq ([] : List Value).toArray }).get? b = some o := Heap.get?_push_of_some _ e
      rw [z] at this
      have q1' : (s.heap.push { cls := .type "list", data := .seq ([] : List Value).toArray }).get? a = some o' := q1
      rw [this] at q1'; cases q1'
      exact q2 vs e'⟩))

theorem SX.append {x : Str} {p1 apos cpos pos : Pos} {e : Expr} {l : List PV} {v : PV} (h : EV w base n sc ρ e v) (hz : l.length ≤ sizeLine)
    (hline : (apos.endLine == cpos.line) = true := by rfl) (htr : ∀ env, backTo cpos (starEach [e] env) = [(false, eval e env)] := by intros; rfl) (hd : (x == ("__debug__" : Str)) = false := by decide) :
    SX w base n sc ρ (some (x, l)) (.Expr (.Call (.Attribute (.Name x p1) "append" apos) [e] [] cpos) pos) (.next ρ (some (x, l ++ [v]))) :=
  fun A env h₀ g₀ g s hs G Q E hq => by
    obtain ⟨a, items, h1, h2, h3, h4, h5⟩ := G.own x l rfl
    refine wpAny_Expr (wpAny_Call_append rfl (by rw [htr]; rfl) hline (htr env) (wpAny_Name (h1.load G.good.envok.kind ⟨a, items, rfl, ?_, h A env g s hs G.good _ _ fun pv h₁ tk₁ g₁ st₁ rv => ?_⟩) hd)) ?_ ?_
    · obtain ⟨k, e⟩ := h2
      exact ⟨_, k, e, rfl, rfl, rfl⟩
    · have G₁ := G.step st₁
      have h2' : h₁.PlainList a items := st₁.ext.plain h2
      have e1 := h3.length
      simp only [Array.length_toList] at e1
      refine wpAny_list_append_plain (hsz := by omega) h2' fun h₂ hl₂ hs₂ => ?_
      have ga : g₁ a = none := by
        cases q : g₁ a with
        | none => rfl
        | some o =>
          rcases st₁.new a o q with z | z
          · rw [h4] at z; cases z
          · obtain ⟨k, e⟩ := h2; rw [e] at z; cases z
      have hla : env.locals ≠ a := fun z => by
        obtain ⟨_, _, m, o, es, ep, e1, e2, _⟩ := G₁.loc
        obtain ⟨k, e⟩ := h2'
        rw [z, e] at e1; cases e1; cases e2
      have hca : ∀ c v, h₁.IsCell c v → c ≠ a := fun c v ⟨o, e1, e2⟩ z => by
        obtain ⟨k, e⟩ := h2'
        rw [z, e] at e1; cases e1; cases e2
      have up : ∀ b o, b ≠ a → h₁.get? b = some o → h₂.get? b = some o := fun b o hb e => hs₂.extBut b o hb e
      have hh : ∀ y u, Held h₁ env y u → Held h₂ env y u := by
        rintro y u (⟨p, m', q, r⟩ | ⟨p, c, o, q, r, t⟩)
        · exact .inl ⟨p, m', q.sameBut hs₂ hla, r⟩
        · exact .inr ⟨p, c, o, q, up c o (hca c _ ⟨o, r, t⟩) r, t⟩
      refine hq _ h₂ tk₁ g₁ ⟨rfl, ⟨⟨⟨fun b o e => up b o (fun z => by rw [z, ga] at e; cases e) (st₁.sub b o e), G₁.good.ok.gb, G₁.good.ok.handled, G₁.good.ok.depth, G₁.good.ok.units, ?_⟩, G₁.good.envok, fun y u hy => ?_⟩, G₁.keep.then fun b o ⟨o', e⟩ => up b o (fun z => by rw [z, h5] at e; cases e), G₁.grow, G₁.new, ⟨G₁.loc.1, G₁.loc.2.1, ?_⟩, fun y hy => ?_, G₁.inj, fun y l' e => ?_⟩, st₁.grow, ?_⟩
      · obtain ⟨L, f1, f2⟩ := G₁.good.ok.frames
        refine ⟨L, f1, f2.upd (fun b o es ep e hf => ?_) fun b e _ => e⟩
        by_cases hb : b = a
        · subst hb
          obtain ⟨k, e'⟩ := h2'
          rw [e'] at e; cases e; cases hf
        · exact ⟨o, es, ep, up b o hb e, hf⟩
      · obtain ⟨pv', q1, q2⟩ := G₁.good.names y u hy
        exact ⟨pv', hh y pv' q1, q2⟩
      · obtain ⟨_, _, m, hm⟩ := G₁.loc
        exact ⟨m, hm.sameBut hs₂ hla⟩
      · obtain ⟨c, u, c1, c2, c3, c4⟩ := G₁.cel y hy
        obtain ⟨o, q1, q2⟩ := id c2
        exact ⟨c, u, c1, ⟨o, up c o (hca c u c2) q1, q2⟩, c3, c4⟩
      · cases e
        refine ⟨a, items.push pv, hh _ _ (h1.ext st₁.ext), hl₂, ?_, ga, h5⟩
        rw [Array.toList_push]
        exact (h3.mono st₁.grow).app (RepL.one rv)
      · intro b o vs e e'
        refine ⟨up b o (fun z => ?_) (st₁.ext.fields e e'), (KF.of st₁ b o vs e e').2⟩
        obtain ⟨k, e2⟩ := h2
        rw [z, e2] at e; cases e; cases e'
    · show interactive env = false
      unfold interactive
      simp [G.good.envok.kind]
    · rfl

theorem draw_walk {A : Around} {I : Addr} {fp wr : List Addr} {N : Nat} {P : Nat → Value → Prop} {St : Nat → Heap → Prop} {items : List PV} {g : Gh} (W : Walks prog w A I fp wr N P St) (hN : N = items.length) (hP : ∀ i v, P i v → ∃ q, items[i]? = some q ∧ Rep g q v) :
    ∀ (k i : Nat) (s : Shared) (Q : List Value → Shared → Prop) (E : Value → Shared → Prop), i + k = items.length → St i s.heap → (∀ vs h' tk, RepL g (items.drop i) vs → St items.length h' → (∀ b o, b ∉ wr → s.heap.get? b = some o → h'.get? b = some o) → Q vs { s with heap := h', toks := tk }) → wpAny (MD w) A (draw (.ref I) k) Q E s
  | 0, i, s, Q, E, hik, st, hq => by
    have : i = items.length := by omega
    subst this
    exact wpAny_pure (hq [] s.heap s.toks (by simp [RepL]) st fun b o _ e => e)
  | k + 1, i, s, Q, E, hik, st, hq => by
    have hi : i < items.length := by omega
    show wpAny _ _ (pyNext (.ref I) >>= _) Q E s
    refine wpAny_bind (W.item i s _ _ (by omega) st fun v h₁ tk₁ pv st₁ k₁ => ?_)
    obtain ⟨q, hq', rq⟩ := hP i v pv
    refine wpAny_bind (wpAny_holding (draw_walk W hN hP k (i + 1) _ _ _ (by omega) st₁ fun vs h₂ tk₂ rvs st₂ k₂ => wpAny_pure ?_))
    refine hq (v :: vs) h₂ tk₂ ?_ st₂ fun b o hb e => k₂ b o hb (k₁ b o hb e)
    have : items.drop i = q :: items.drop (i + 1) := by
      rw [List.drop_eq_getElem_cons hi]
      have := List.getElem?_eq_some_iff.mp hq'
      rw [this.2]
    rw [this]
    exact RepL.cons rq rvs
/-- a value is taken apart -/
theorem unpack_items {A : Around} {g : Gh} {s : Shared} {x : Value} {p : PV} {items : List PV} {Q : List Value → Shared → Prop} {E : Value → Shared → Prop} (hI : IT w p items) (hA : A.handled = none) (hs : Sub g s.heap) (rx : Rep g p x) (hni : notIterableAtAll x = pure false ∨ ∀ (Q' : Bool → Shared → Prop), Q' false s → wpAny (MD w) A (notIterableAtAll x) Q' E s)
    (hq : ∀ vs h' tk, RepL g items vs → Step g g s.heap h' → Q vs { s with heap := h', toks := tk }) : wpAny (MD w) A (unpackItems x items.length none) Q E s := by
  unfold unpackItems
  have rest : wpAny (MD w) A (do
      let it ← holding [x] (pyIter x)
      let its ← holding [it] (draw it items.length)
      if its.length < items.length then
        rule "unpack.too-few"; raiseError "ValueError" s!"not enough values to unpack (expected {items.length}, got {its.length})"
      if (← holding its (pyNext it)).isSome then
        rule "unpack.too-many"; raiseError "ValueError" s!"too many values to unpack (expected {items.length})"
      return its) Q E s := by
    refine wpAny_bind (wpAny_holding (hI A g s x _ _ hA hs rx fun I fp wr P St h₁ W st ext hfp hwr hfg hP hSt hIw => ?_))
    refine wpAny_bind (wpAny_holding (draw_walk W rfl hP items.length 0 _ _ _ (by omega) st fun vs h₂ tk₂ rvs st₂ k₂ => ?_))
    rw [List.drop_zero] at rvs
    have e := rvs.length
    simp only [e, Nat.lt_irrefl, if_false]
    refine wpAny_bind (wpAny_holding (W.done _ _ _ st₂ fun h₃ tk₃ k₃ => ?_))
    simp only [Option.isSome_none, Bool.false_eq_true, if_false]
    exact wpAny_pure (hq vs h₃ tk₃ rvs (Step.of_ext hs fun b o e => k₃ b o (fun z => by rw [hwr b z] at e; cases e) (k₂ b o (fun z => by rw [hwr b z] at e; cases e) (ext b o e))))
  rcases hni with h | h
  · rw [h]; exact rest
  · exact wpAny_bind (h _ rest)
theorem notIter_tup {A : Around} {g : Gh} {s : Shared} {l : List PV} {x : Value} {Q' : Bool → Shared → Prop} {E : Value → Shared → Prop} (hs : Sub g s.heap) (rx : Rep g (.tup l) x) (h : Q' false s) : wpAny (MD w) A (notIterableAtAll x) Q' E s := by
  obtain ⟨a, o, m, items, rfl, h1, h2, h3, h4⟩ := unT rx
  have ht : s.heap.IsTuple a items := ⟨o, hs _ _ h1, h2, m, h3⟩
  unfold notIterableAtAll
  refine wpAny_bind (wpAny_specialOf ht.typeIs F.slot_tuple_iter.lookup ?_)
  exact wpAny_pure h
theorem notIter_list {A : Around} {g : Gh} {s : Shared} {l : List PV} {x : Value} {Q' : Bool → Shared → Prop} {E : Value → Shared → Prop} (hs : Sub g s.heap) (rx : Rep g (.list l) x) (h : Q' false s) : wpAny (MD w) A (notIterableAtAll x) Q' E s := by
  obtain ⟨a, o, m, items, rfl, h1, h2, h3, h4⟩ := unL rx
  have ht : s.heap.IsList a items := ⟨o, hs _ _ h1, h2, m, h3⟩
  unfold notIterableAtAll
  refine wpAny_bind (wpAny_specialOf ht.typeIs slot_list_iter.lookup ?_)
  exact wpAny_pure h

/-- names take values in order -/
noncomputable def put : List (Str × Pos) → List PV → Rho → Rho
  | (x, _) :: r, v :: vs, ρ => put r vs ((x, v) :: ρ)
  | _, _, ρ => ρ
noncomputable def nameExprs (l : List (Str × Pos)) : List Expr := l.map fun p => .Name p.1 p.2
theorem assignEach_names (l : List (Str × Pos)) (env : Env) : assignEach (nameExprs l) env = l.map fun p => (false, assign (.Name p.1 p.2) env) := by
  induction l with
  | nil => rfl
  | cons p r ih => show (false, assign (.Name p.1 p.2) env) :: assignEach (nameExprs r) env = _; rw [ih]; rfl
theorem put_in_order {A : Around} {env : Env} {h₀ : Heap} {g₀ g : Gh} : ∀ (l : List (Str × Pos)) (vs : List PV) (xs : List Value) (ρ : Rho) (s : Shared) (Q : Unit → Shared → Prop) (E : Value → Shared → Prop), GS base n A env h₀ g₀ g ρ ow s.heap → RepL g vs xs → (∀ p ∈ l, ownName env.scope ow p.1 = true) →
    (∀ h' tk, GS base n A env h₀ g₀ g (put l vs ρ) ow h' → KF g g s.heap h' → Q () { s with heap := h', toks := tk }) → wpAny (MD w) A (assignInOrder (l.map fun p => assign (.Name p.1 p.2) env) xs) Q E s
  | [], vs, xs, ρ, s, Q, E, G, rv, hn, hq => by
    have : assignInOrder [] xs = pure () := by cases xs <;> rfl
    show wpAny _ _ (assignInOrder [] xs) Q E s
    rw [this]
    exact wpAny_pure (hq s.heap s.toks (by cases vs <;> exact G) (KF.refl _ _))
  | (x, p) :: r, [], xs, ρ, s, Q, E, G, rv, hn, hq => by
    simp only [RepL] at rv
    subst rv
    exact wpAny_pure (hq s.heap s.toks G (KF.refl _ _))
  | (x, p) :: r, v :: vs, xs, ρ, s, Q, E, G, rv, hn, hq => by
    simp only [RepL] at rv
    obtain ⟨u, us, rfl, r1, r2⟩ := rv
    show wpAny _ _ (do holding us (assign (.Name x p) env u); assignInOrder (r.map fun p => assign (.Name p.1 p.2) env) us) Q E s
    refine wpAny_bind (wpAny_holding (wpAny_assign_Name (G.bind (hn (x, p) List.mem_cons_self) r1 fun h' tk G' kf => ?_)))
    exact put_in_order r vs us _ _ _ _ G' r2 (fun q hq => hn q (List.mem_cons_of_mem _ hq)) fun h'' tk' G'' kf' => hq h'' tk' G'' (kf.trans kf')

theorem AS.tup {l : List (Str × Pos)} {k : Nat} {pos : Pos} {vs : List PV} (hl : l.length = vs.length) (hn : l.all (fun p => ownName sc ow p.1) = true) : AS w base n sc ρ ow (.Tuple (nameExprs l) k pos) (.tup vs) (put l vs ρ) :=
  fun A env h₀ g₀ g s x hs G rx Q E hq => by
    subst hs
    rw [assign_Tuple, assignEach_names]
    refine wpAny_bind (wpAny_standAt ?_)
    unfold unpack
    have e2 : (l.map fun p => (false, assign (.Name p.1 p.2) env)).findIdx? (·.1) = none := by simp [List.findIdx?_eq_none_iff]
    rw [List.length_map, e2, hl]
    refine wpAny_bind (wpAny_holding (unpack_items IT.tup G.good.ok.handled G.good.ok.sub rx (.inr fun Q' h => notIter_tup G.good.ok.sub rx h) fun xs h' tk rxs st => ?_))
    have e3 : (l.map fun p => (false, assign (.Name p.1 p.2) env)).map (·.2) = l.map fun p => assign (.Name p.1 p.2) env := by simp
    rw [e3]
    exact put_in_order l vs xs ρ _ _ _ (G.step st) rxs (fun p hp => List.all_eq_true.mp hn p hp) fun h'' tk' G'' kf => hq h'' tk' G'' ((KF.of st).trans kf)
theorem AS.list {l : List (Str × Pos)} {k : Nat} {pos : Pos} {vs : List PV} (hl : l.length = vs.length) (hn : l.all (fun p => ownName sc ow p.1) = true) : AS w base n sc ρ ow (.Tuple (nameExprs l) k pos) (.list vs) (put l vs ρ) :=
  fun A env h₀ g₀ g s x hs G rx Q E hq => by
    subst hs
    rw [assign_Tuple, assignEach_names]
    refine wpAny_bind (wpAny_standAt ?_)
    unfold unpack
    have e2 : (l.map fun p => (false, assign (.Name p.1 p.2) env)).findIdx? (·.1) = none := by simp [List.findIdx?_eq_none_iff]
    rw [List.length_map, e2, hl]
    refine wpAny_bind (wpAny_holding (unpack_items IT.list G.good.ok.handled G.good.ok.sub rx (.inr fun Q' h => notIter_list G.good.ok.sub rx h) fun xs h' tk rxs st => ?_))
    have e3 : (l.map fun p => (false, assign (.Name p.1 p.2) env)).map (·.2) = l.map fun p => assign (.Name p.1 p.2) env := by simp
    rw [e3]
    exact put_in_order l vs xs ρ _ _ _ (G.step st) rxs (fun p hp => List.all_eq_true.mp hn p hp) fun h'' tk' G'' kf => hq h'' tk' G'' ((KF.of st).trans kf)
theorem SX.assignT {es : List Expr} {k : Nat} {tpos pos : Pos} {value : Expr} {v : PV} (h : EV w base n sc ρ value v) (ha : AS w base n sc ρ ow (.Tuple es k tpos) v ρ')
    (hs1 : ∀ env, swapsWithSole [.Tuple es k tpos] value pos.line env = pure false := by intros; rfl) (hs2 : ∀ env, swappedStores [.Tuple es k tpos] value env = pure none := by intros; rfl) : SX w base n sc ρ ow (.Assign [.Tuple es k tpos] value pos) (.next ρ' ow) :=
  fun A env h₀ g₀ g s hs G Q E hq => Assign_Tuple (h A env g s hs G.good _ _ fun pv h' tk g' st rv => ha A env h₀ g₀ g' _ pv hs (G.step st) rv _ _ fun h'' tk' G'' kf => hq _ h'' tk' g' ⟨rfl, G'', st.grow, (KF.of st).trans kf⟩) (hs1 env) (hs2 env)

theorem SX.assignC {elt iter : Expr} {x y : Str} {px py pos spos : Pos} {ifs : List Expr} {scope : Scope} {p : PV} {items : List PV} (sel : PV → Bool) (f : PV → PV) (hok : compOk scope sc ρ x = true)
    (hit : EV w base n sc ρ iter p) (hI : IT w p items)
    (htest : ∀ q ∈ items, TVs w base n (relab scope sc) ((x, q) :: capt (relab scope sc) ρ) ifs (sel q))
    (helt : ∀ q ∈ items, sel q = true → EV w base n (relab scope sc) ((x, q) :: capt (relab scope sc) ρ) elt (f q))
    (hz : items.length ≤ sizeLine) (hy : ownName sc ow y = true) (hsw : ∀ env, env.scope = sc → swapsWith (.ListComp elt [⟨.Name x px, iter, ifs, 0⟩] scope pos) (some (.Name y py)) spos.line env = pure true) (hs : ∀ env x, foldedSetIterable iter env x = pure x := by intro _ _; rfl) :
    SX w base n sc ρ ow (.Assign [.Name y py] (.ListComp elt [⟨.Name x px, iter, ifs, 0⟩] scope pos) spos) (.next ((y, .list ((items.filter sel).map f)) :: ρ) ow) :=
  fun A env h₀ g₀ g s he G Q E hq => by
    have hsw' := hsw env he
    subst he
    rw [exec_Assign_Name_used _ _ _ _ hsw']
    refine wpAny_bind (wpAny_standAt (wpAny_bind ?_))
    show wpAny _ A (do let _ ← comprehension (.ListComp elt [⟨.Name x px, iter, ifs, 0⟩] scope pos) scope env _ (newList []) false (eval iter env) (some (PySem.assign (.Name y py) env))) _ _ s
    refine wpAny_bind (wpAny_mono (comp_core (Q := fun _ s' => Q .next s') (E := E) sel f (some (PySem.assign (.Name y py) env)) hok hit hI htest helt hz (hs env) G.good ?_) (fun _ s' hq => wpAny_pure (wpAny_pure hq)) fun _ _ e => e)
    intro D C h' tk g' m' st rD hn gC hC
    show wpAny _ A (PySem.assign (.Name y py) env (.ref D)) _ _ _
    have G' := G.step st
    obtain ⟨kx, ky⟩ := ownName_kind hy
    have hCL : ∀ b, (∃ o, s.heap.get? b = some o) → b ≠ C := fun b ⟨o, e⟩ z => by rw [z, hC] at e; cases e
    have hL : env.locals ≠ C := hCL _ (by obtain ⟨_, _, m, o, _, _, e, _⟩ := G.loc; exact ⟨o, e⟩)
    have hcells : ∀ z, env.kindOf z = some .cell → env.cells.lookup z ≠ some C := fun z hz e => by
      obtain ⟨c, v, h1, ⟨o, q, _⟩, _⟩ := G.cel z hz
      rw [h1] at e; cases e
      exact hCL C ⟨o, q⟩ rfl
    refine wpAny_assign_Name (G'.store (s := { s with heap := h', toks := tk }) kx fun h₂ tk₂ a hsb ga hl hd ha hd' hh hG => ?_)
    have haC : a ≠ C := by
      rcases ha with rfl | ⟨z, z1, z2⟩
      · exact hL
      · exact fun e => hcells z z1 (e ▸ z2)
    have hn₂ : h₂.Ns C m' := hn.sameBut hsb (Ne.symm haC)
    refine ⟨m', hn₂, fun h₃ hs₃ => ?_⟩
    have G₂ := (hG ow fun y' l e => ⟨e, ky y' l e⟩).put hh rD
    refine hq _ h₃ tk₂ g' ⟨rfl, G₂.elsewhere hs₃ gC ?_ hL hcells (fun b items ⟨k, e⟩ z => ?_) ?_, st.grow, fun b o vs e e' => ?_⟩
    · exact G.keep.none hC
    · obtain ⟨o, es, ep, e1, e2, _⟩ := hn₂
      rw [z, e1] at e; cases e; cases e2
    · obtain ⟨l, f1, f2⟩ := G.good.ok.frames
      refine ⟨l, f1, f2.upd (fun b o es ep e hf => ?_) fun b e x => st.noNew e x⟩
      have hbC : b ≠ C := hCL b ⟨o, e⟩
      obtain ⟨o', q1, q2, _⟩ := st.ext b o e
      by_cases hb : b = a
      · subst hb
        obtain ⟨o'', es', ep', r1, r2⟩ := hd' o' es ep q1 (q2.trans hf)
        exact ⟨o'', es', ep', hs₃.extBut _ _ hbC r1, r2⟩
      · exact ⟨o', es, ep, hs₃.extBut _ _ hbC (hsb.extBut _ _ hb q1), q2.trans hf⟩
    · have hbC : b ≠ C := hCL b ⟨o, e⟩
      refine ⟨hs₃.extBut _ _ hbC (hsb.extBut _ _ (fun z => ?_) (st.ext.fields e e')), (KF.of st b o vs e e').2⟩
      obtain ⟨o', q1, q2⟩ := hd
      have q1' : h'.get? a = some o' := q1
      rw [← z, st.ext.fields e e'] at q1'; cases q1'
      exact q2 vs e'
end
end Mine
end
section
open PySem PySem.W PyProof.Rows PySem.Calls PySem.SeqAt
namespace Mine

/-- what an iterator's turn changes; S: the heap where the loop began -/
structure Moves (S : Heap) (g g' : Gh) (h h' : Heap) : Prop where
  old : ∀ b o, S.get? b = some o → h.get? b = some o → h'.get? b = some o
  rest : ∀ b o, h.get? b = some o → (∀ vs, o.data ≠ .fields vs) → h'.get? b = some o
  grow : ∀ b o, g b = some o → g' b = some o
  new : ∀ b o, g' b = some o → g b = some o ∨ h.get? b = none
  sub : Sub g' h'

section
variable {w : World} {base : Heap} {n : Nat} {sc : Scope} {ρ ρ' : Rho} {ow ow' : Ow} {GL : Str → Option Value}

theorem GS.moves {A : Around} {env : Env} {h₀ S : Heap} {g₀ g g' : Gh} {h h' : Heap} (k : GS base n A env h₀ g₀ g ρ ow h) (hS : Soft h₀ S) (mv : Moves S g g' h h') : GS base n A env h₀ g₀ g' ρ ow h' := by
  have nn : ∀ b, g b = none → (∃ o, h.get? b = some o) → g' b = none := fun b e1 ⟨o', ho'⟩ => by
    cases hb : g' b with
    | none => rfl
    | some o =>
      rcases mv.new b o hb with z | z
      · rw [e1] at z; cases z
      · rw [ho'] at z; cases z
  have ns : ∀ {m}, h.Ns env.locals m → h'.Ns env.locals m := fun {m} ⟨o, es, ep, e1, e2, e3⟩ => ⟨o, es, ep, mv.rest _ o e1 (fun vs z => by rw [e2] at z; cases z), e2, e3⟩
  have cl : ∀ {c v}, h.IsCell c v → h'.IsCell c v := fun {c v} ⟨o, e1, e2⟩ => ⟨o, mv.rest _ o e1 (fun vs z => by rw [e2] at z; cases z), e2⟩
  have hh : ∀ y u, Held h env y u → Held h' env y u := by
    rintro y u (⟨p, m', q, r⟩ | ⟨p, c, o, q, r, t⟩)
    · exact .inl ⟨p, m', ns q, r⟩
    · exact .inr ⟨p, c, o, q, mv.rest _ o r (fun vs z => by rw [t] at z; cases z), t⟩
  refine ⟨⟨⟨mv.sub, fun b o e => mv.grow b o (k.good.ok.gb b o e), k.good.ok.handled, k.good.ok.depth, k.good.ok.units, ?_⟩, k.good.envok, fun y v hy => let ⟨pv, a, b⟩ := k.good.names y v hy; ⟨pv, hh y pv a, b.mono mv.grow⟩⟩, fun b o e => ?_, fun b o e => mv.grow b o (k.grow b o e), fun b o e => (mv.new b o e).elim (k.new b o) fun z => .inr (k.keep.none z), ?_, fun y hy => ?_, k.inj, fun y l e => ?_⟩
  · obtain ⟨l, f1, f2⟩ := k.good.ok.frames
    exact ⟨l, f1, f2.upd (fun b o es ep e hf => ⟨o, es, ep, mv.rest b o e (fun vs z => by rw [hf] at z; cases z), hf⟩) nn⟩
  · obtain ⟨o', e1, e2, e3⟩ := k.keep b o e
    by_cases hf : ∃ vs, o.data = .fields vs
    · obtain ⟨vs, hf⟩ := hf
      have := e3 (fun es ep z => by rw [hf] at z; cases z)
      subst this
      exact ⟨o', mv.old b o' (hS.fields e hf) e1, rfl, fun _ => rfl⟩
    · exact ⟨o', mv.rest b o' e1 (fun vs z => hf ⟨vs, e2 ▸ z⟩), e2, e3⟩
  · obtain ⟨a, b, m, hm⟩ := k.loc
    exact ⟨nn _ a (by obtain ⟨o, _, _, e, _⟩ := hm; exact ⟨o, e⟩), b, m, ns hm⟩
  · obtain ⟨c, v, h1, h2, h3, h4⟩ := k.cel y hy
    exact ⟨c, v, h1, cl h2, nn _ h3 (by obtain ⟨o, e, _⟩ := h2; exact ⟨o, e⟩), h4⟩
  · obtain ⟨b, items, h1, ⟨j, h2⟩, h3, h4, h5⟩ := k.own y l e
    exact ⟨b, items, hh y _ h1, ⟨j, mv.rest _ _ h2 (fun vs z => nomatch z)⟩, h3.mono mv.grow, nn _ h4 ⟨_, h2⟩, h5⟩

/-- a for's turns: what comes to the target -/
noncomputable def FE (w : World) (base : Heap) (n : Nat) (sc : Scope) (ρ : Rho) (iter target : Expr) (items : List PV) : Prop := ∀ (A : Around) (env : Env) (g : Gh) (s : Shared) (Q E : Value → Shared → Prop), env.scope = sc → Good base n A env g ρ s.heap →
  (∀ (it : Value) (St : Nat → Heap → Prop) (Iw : Addr → Prop) (h' : Heap) (tk' : Nat) (g' : Gh), Step g g' s.heap h' → St 0 h' →
    (∀ b, Iw b → g' b = none) → (∀ i h b, St i h → Iw b → ∃ o vs, h.get? b = some o ∧ o.data = .fields vs) →
    (∀ i h₁ h₂ g₁ g₂, St i h₁ → Sub g' h₁ → KF g₁ g₂ h₁ h₂ → Sub g' h₂ → St i h₂) →
    (∀ i (s₁ : Shared) (g₁ : Gh) (Q₁ E₁ : Value → Shared → Prop), i < items.length → St i s₁.heap → (∀ b o, g' b = some o → g₁ b = some o) → Sub g₁ s₁.heap → (∀ b, Iw b → g₁ b = none) →
      (∀ v q h₂ tk g₂, items[i]? = some q → Rep g₂ q v → St (i + 1) h₂ → Moves s.heap g₁ g₂ s₁.heap h₂ → (∀ b, Iw b → g₂ b = none) → Q₁ v { s₁ with heap := h₂, toks := tk }) →
      wpAny (MD w) A (pyNext it) (fun r s₂ => ∃ v, r = some v ∧ wpAny (MD w) A (letOwnedTupleGo target it v) (fun _ s₃ => Q₁ v s₃) E₁ s₂) E₁ s₁) →
    (∀ (s₁ : Shared) (g₁ : Gh) (Q₁ : Option Value → Shared → Prop) (E₁ : Value → Shared → Prop), St items.length s₁.heap → (∀ b o, g' b = some o → g₁ b = some o) → Sub g₁ s₁.heap → (∀ b, Iw b → g₁ b = none) →
      (∀ h₂ tk, Moves s.heap g₁ g₁ s₁.heap h₂ → Q₁ none { s₁ with heap := h₂, toks := tk }) → wpAny (MD w) A (pyNext it) Q₁ E₁ s₁) →
    Q it { s with heap := h', toks := tk' }) → wpAny (MD w) A (eval iter env) (fun x s₁ => wpAny (MD w) A (pyIter x) Q E s₁) E s

theorem letOwned_plain {A : Around} {target : Expr} {I : Addr} {v : Value} {s : Shared} {Q : Unit → Shared → Prop} {E : Value → Shared → Prop} (h : ItObj s.heap I) (hq : Q () s) : wpAny (MD w) A (letOwnedTupleGo target (.ref I) v) Q E s := by
  obtain ⟨o, T, vs, e1, e2, e3, e4⟩ := h
  have key : wpAny (MD w) A (do
      let (.ref r, .ref a) := (Value.ref I, v) | return
      let o ← load r
      match o.cls, o.data with
      | .type n, .fields vs =>
        if ["enumerate", "zip", "dict_itemiterator", "dict_reverseitemiterator", "odict_iterator", "itertools.zip_longest", "itertools.pairwise"].contains n && vs[0]? == some (rawInt a) then
          rule "for.unpacks-the-owned-tuple"
          updateField r 0 .none
      | _, _ => pure ()) Q E s := by
    cases v <;> try exact wpAny_pure hq
    refine wpAny_bind (wpAny_load e1 ?_)
    rw [e2, e3]
    have e4' : (["enumerate", "zip", "dict_itemiterator", "dict_reverseitemiterator", "odict_iterator", "itertools.zip_longest", "itertools.pairwise"].contains T) = false := e4
    simp only [e4', Bool.false_and, Bool.false_eq_true, if_false]
    exact wpAny_pure hq
  cases target <;> first | exact wpAny_pure hq | exact key

theorem FE.of {p : PV} {items : List PV} {iter target : Expr} (hit : EV w base n sc ρ iter p) (hI : IT w p items) : FE w base n sc ρ iter target items := fun A env g s Q E he G hq => by
  refine hit A env g s he G _ _ fun x h₁ tk₁ g₁ st₁ rx => ?_
  refine hI A g₁ _ x Q E G.ok.handled st₁.sub rx fun I fp wr P St h' W st ext hfp hwr hfg hP hSt hIw => ?_
  have notwr : ∀ i h b o, St i h → h.get? b = some o → (∀ vs, o.data ≠ .fields vs) → b ∉ wr := fun i h b o hst e hf hb => by
    obtain ⟨o', T, vs, e1, _, e3, _⟩ := hSt i h hst b hb
    rw [e] at e1; cases e1
    exact hf vs e3
  have old : ∀ b o, s.heap.get? b = some o → b ∉ wr := fun b o e hb => by
    obtain ⟨o', z⟩ := st₁.ext.ex ⟨o, e⟩
    rw [hwr b hb] at z; cases z
  have mvs : ∀ i (h₂ h₃ : Heap) g₁, St i h₂ → Sub g₁ h₂ → (∀ b o, b ∉ wr → h₂.get? b = some o → h₃.get? b = some o) → (∀ b ∈ wr, g₁ b = none) → Moves s.heap g₁ g₁ h₂ h₃ := fun i h₂ h₃ g₁ hst hsub hk hw =>
    ⟨fun b o e e' => hk b o (old b o e) e', fun b o e hf => hk b o (notwr i h₂ b o hst e hf) e, fun _ _ e => e, fun _ _ e => .inl e, fun b o e => hk b o (fun z => by rw [hw b z] at e; cases e) (hsub b o e)⟩
  refine hq (.ref I) St (· ∈ wr) h' tk₁ g₁ (st₁.trans (Step.of_ext st₁.sub ext)) st (fun b hb => sub_none st₁.sub (hwr b hb)) (fun i h b hst hb => let ⟨o, T, vs, e1, _, e3, _⟩ := hSt i h hst b hb; ⟨o, vs, e1, e3⟩) (fun i h₁ h₂ g₁ g₂ hst sub₁ kf sub₂ => W.frame i h₁ h₂ hst fun b hb o e => ?_) (fun i s₁ g₁ Q₁ E₁ hi hst hgg hsub hnew hQ => ?_) (fun s₁ g₁ Q₁ E₁ hst hgg hsub hnew hQ => W.done s₁ _ _ hst fun h₂ tk₂ k₂ => hQ h₂ tk₂ (mvs _ _ _ _ hst hsub k₂ hnew))
  · rcases hfg b hb with hw | ⟨o', ho'⟩
    · obtain ⟨o', T, vs, e1, _, e3, _⟩ := hSt i h₁ hst b hw
      rw [e] at e1; cases e1
      exact (kf b o vs e e3).1
    · have := sub₁ b o' ho'
      rw [e] at this; cases this
      exact sub₂ b o ho'
  · refine W.item i s₁ _ _ hi hst fun v h₂ tk₂ pv st₂ k₂ => ⟨v, rfl, letOwned_plain (hSt _ _ st₂ I hIw) ?_⟩
    obtain ⟨q, e, rq⟩ := hP i v pv
    exact hQ v q h₂ tk₂ g₁ e (rq.mono hgg) st₂ (mvs _ _ _ _ hst hsub k₂ hnew) hnew

theorem codeAny_for {A : Around} {R : Result → Shared → Prop} {target : Expr} {it : Value} {body orelse : List Stmt} {env : Env} {s : Shared} (I : Nat → Shared → Prop)
    (turn : ∀ n s, I n s → wpAny (MD w) A (pyNext it) (fun r s₁ => match r with
      | none => wpAny (MD w) A (execs orelse env) (fun f s₃ => R (.ok f) s₃) (notedBy (MD w) A env fun e s' => R (.error e) s') s₁
      | some v => wpAny (MD w) A (letOwnedTupleGo target it v) (fun _ s₂ => wpAny (MD w) A (assign target env v) (fun _ s₂ => wpAny (MD w) A (execs body env) (fun f s₃ => match f with
          | .next | .cont => ∃ m, m < n ∧ I m s₃
          | .brk => R (.ok .next) s₃
          | .ret v => R (.ok (.ret v)) s₃) (notedBy (MD w) A env fun e s' => R (.error e) s') s₂) (notedBy (MD w) A env fun e s' => R (.error e) s') s₂) (notedBy (MD w) A env fun e s' => R (.error e) s') s₁) (notedBy (MD w) A env fun e s' => R (.error e) s') s)
    (n : Nat) (h : I n s) : codeAny (MD w) A (.forLoop target it body orelse env) R s := by
  refine codeAny_loop' rfl I (fun n s hI => ?_) n h
  show wpAny _ _ ((forTurn target it body orelse env).onRaise (fun x => do noteFrame x env; theTreesLotGoes x)) _ _ s
  refine wpAny_noted ?_
  simp only [forTurn]
  refine wpAny_bind (wpAny_standAt (wpAny_bind (wpAny_onRaise (wpAny_mono (turn n s hI) (fun r s₁ h₁ => ?_) fun _ _ h' => wpAny_standAt h'))))
  cases r with
  | none => exact wpAny_pure (.inr ⟨rfl, codeAny_block h₁⟩)
  | some v =>
    refine wpAny_bind (wpAny_mono h₁ (fun _ s₁' h₁' => wpAny_bind (wpAny_mono h₁' (fun _ s₂ h₂ => wpAny_bind (wpAny_mono h₂ (fun f s₃ h₃ => ?_) fun _ _ h' => h')) fun _ _ h' => h')) fun _ _ h' => h')
    cases f with
    | next => exact wpAny_pure (.inl ⟨rfl, h₃⟩)
    | cont => exact wpAny_pure (.inl ⟨rfl, h₃⟩)
    | brk => exact wpAny_pure h₃
    | ret v => exact wpAny_pure h₃

/-- a for's run over the items that are left -/
inductive FL (w : World) (base : Heap) (n : Nat) (sc : Scope) (target : Expr) (body orelse : List Stmt) : Rho → Ow → List PV → Out → Prop
  | nil {ρ ow out} : SXs w base n sc ρ ow orelse out → FL w base n sc target body orelse ρ ow [] out
  | next {ρ ow q rest ρ₁ ρ₂ ow₂ out} : AS w base n sc ρ ow target q ρ₁ → SXs w base n sc ρ₁ ow body (.next ρ₂ ow₂) → FL w base n sc target body orelse ρ₂ ow₂ rest out → FL w base n sc target body orelse ρ ow (q :: rest) out
  | brk {ρ ow q rest ρ₁ ρ₂ ow₂} : AS w base n sc ρ ow target q ρ₁ → SXs w base n sc ρ₁ ow body (.brk ρ₂ ow₂) → FL w base n sc target body orelse ρ ow (q :: rest) (.next ρ₂ ow₂)
  | ret {ρ ow q rest ρ₁ v} : AS w base n sc ρ ow target q ρ₁ → SXs w base n sc ρ₁ ow body (.ret v) → FL w base n sc target body orelse ρ ow (q :: rest) (.ret v)

theorem SX.for {target iter : Expr} {body orelse : List Stmt} {pos : Pos} {items : List PV} {out : Out} (hF : FE w base n sc ρ iter target items) (hL : FL w base n sc target body orelse ρ ow items out)
    (hs : ∀ env x, foldedSetIterable iter env x = pure x := by intro _ _; rfl) : SX w base n sc ρ ow (.For target iter body orelse pos) out :=
  fun A env h₀ g₀ g s he G Q E hq => by
    refine wpAny_For (hF A env g s _ _ he G.good fun it St Iw h' tk₁ g₁ st₁ st Ig Iobj frame item done => ?_) (hs env)
    have G' := G.step st₁
    have hS : Soft h₀ s.heap := G.keep
    refine codeAny_for (fun k s' => ∃ i h tk g' ρ ow, s' = { s with heap := h, toks := tk } ∧ i ≤ items.length ∧ k = items.length + 1 - i ∧ St i h ∧ GS base n A env h₀ g₀ g' ρ ow h ∧ FL w base n sc target body orelse ρ ow (items.drop i) out ∧ (∀ b o, g₁ b = some o → g' b = some o) ∧ KF g g' s.heap h ∧
      (∀ b, Iw b → g' b = none)) ?_ (items.length + 1) ⟨0, h', tk₁, g₁, ρ, ow, rfl, Nat.zero_le _, rfl, st, G', by simpa using hL, fun _ _ e => e, KF.of st₁, Ig⟩
    rintro k s' ⟨i, h, tk, g', ρ', ow', rfl, hi, rfl, hst, GG, hfl, hgg, hkf, hnew⟩
    by_cases hlt : i < items.length
    · have hdrop : items.drop i = items[i] :: items.drop (i + 1) := List.drop_eq_getElem_cons hlt
      rw [hdrop] at hfl
      refine wpAny_mono (item i { s with heap := h, toks := tk } g' (fun v s₂ => wpAny (MD w) A (PySem.assign target env v) _ _ s₂) (notedBy (MD w) A env _) hlt hst hgg GG.good.ok.sub hnew fun v q h₂ tk₂ g₂ hq' rq st₂ mv hnew₂ => ?_) (fun r s₂ hr => by obtain ⟨v, rfl, hw⟩ := hr; exact hw) fun _ _ e => e
      have eq : items[i] = q := by
        obtain ⟨_, e⟩ := List.getElem?_eq_some_iff.mp hq'
        exact e
      rw [eq] at hfl
      have G₂ := GG.moves hS mv
      have kf₂ : ∀ b o vs, s.heap.get? b = some o → o.data = .fields vs → h₂.get? b = some o ∧ (g b = none → g₂ b = none) := fun b o vs e e' => ⟨mv.old b o e (hkf b o vs e e').1, fun z => by
        have z' := (hkf b o vs e e').2 z
        cases hb : g₂ b with
        | none => rfl
        | some o' =>
          rcases mv.new b o' hb with y | y
          · rw [z'] at y; cases y
          · rw [(hkf b o vs e e').1] at y; cases y⟩
      have sub2 : Sub g₁ h₂ := fun b o e => mv.sub b o (mv.grow b o (hgg b o e))
      have gall : ∀ b o, g b = some o → g₂ b = some o := fun b o e => mv.grow b o (hgg b o (st₁.grow b o e))
      cases hfl with
      | next ha hb hc =>
        refine ha A env h₀ g₀ g₂ { s with heap := h₂, toks := tk₂ } v he G₂ rq _ _ fun h₃ tk₃ G₃ kf₃ => hb A env h₀ g₀ g₂ _ he G₃ _ _ fun fl h₄ tk₄ g₄ ok => ?_
        obtain ⟨rfl, G₄, gr₄, kf₄⟩ := ok
        refine ⟨items.length + 1 - (i + 1), by omega, i + 1, h₄, tk₄, g₄, _, _, rfl, hlt, rfl, ?_, G₄, hc, fun b o e => gr₄ b o (mv.grow b o (hgg b o e)), ?_, ?_⟩
        · have sub3 : Sub g₁ h₃ := fun b o e => G₃.good.ok.sub b o (mv.grow b o (hgg b o e))
          have sub4 : Sub g₁ h₄ := fun b o e => G₄.good.ok.sub b o (gr₄ b o (mv.grow b o (hgg b o e)))
          exact frame _ _ _ _ _ (frame _ _ _ _ _ st₂ sub2 kf₃ sub3) sub3 kf₄ sub4
        · exact KF.trans (g' := g₂) kf₂ (kf₃.trans kf₄)
        · intro b hb
          obtain ⟨o, vs, e, e'⟩ := Iobj _ _ b st₂ hb
          exact ((kf₃.trans kf₄) b o vs e e').2 (hnew₂ b hb)
      | brk ha hb =>
        refine ha A env h₀ g₀ g₂ { s with heap := h₂, toks := tk₂ } v he G₂ rq _ _ fun h₃ tk₃ G₃ kf₃ => hb A env h₀ g₀ g₂ _ he G₃ _ _ fun fl h₄ tk₄ g₄ ok => ?_
        obtain ⟨rfl, G₄, gr₄, kf₄⟩ := ok
        exact hq _ h₄ tk₄ g₄ ⟨rfl, G₄, fun b o e => gr₄ b o (gall b o e), KF.trans (g' := g₂) kf₂ (kf₃.trans kf₄)⟩
      | ret ha hb =>
        refine ha A env h₀ g₀ g₂ { s with heap := h₂, toks := tk₂ } v he G₂ rq _ _ fun h₃ tk₃ G₃ kf₃ => hb A env h₀ g₀ g₂ _ he G₃ _ _ fun fl h₄ tk₄ g₄ ok => ?_
        obtain ⟨pv, rfl, a, b⟩ := ok
        exact hq _ h₄ tk₄ g₄ ⟨pv, rfl, a, b⟩
    · have hin : i = items.length := by omega
      subst hin
      rw [List.drop_length] at hfl
      cases hfl with
      | nil ho =>
        refine done { s with heap := h, toks := tk } g' _ _ hst hgg GG.good.ok.sub hnew fun h₂ tk₂ mv => ?_
        have G₂ := GG.moves hS mv
        refine ho A env h₀ g₀ g' _ he G₂ _ _ fun fl h₃ tk₃ g₃ ok => hq fl h₃ tk₃ g₃ (ok.from (fun b o e => hgg b o (st₁.grow b o e)) fun b o vs e e' => ⟨mv.old b o e (hkf b o vs e e').1, (hkf b o vs e e').2⟩)
end
end Mine
end
section
open PySem PySem.W PyProof.Rows PySem.Calls PySem.SeqAt
namespace Mine

/-- a def of the text, as it lies at the top -/
structure Fn (base : Heap) (f : Addr) (fd : FuncData) (body : List Stmt) : Prop where
  obj : ∃ o, base.get? f = some o ∧ o.data = .func fd
  code : base.CodeRec fd.code fd.qualname
  body : fd.body = .stmts body
  clo : fd.closure = []
  glob : fd.globals = mainGlobals
  bui : fd.builtins = builtinsNs
theorem Fn.calls {base : Heap} {f : Addr} {fd : FuncData} {body : List Stmt} (F : Fn base f fd body) : Calls base (.ref f) := let ⟨o, h1, h2⟩ := F.obj; Calls.fn h1 h2

/-- a scope that a plain call may enter -/
noncomputable def fnOk (sc : Scope) (names : List Str) : Bool :=
  !sc.isCoroutine && !sc.isGenerator && sc.kind == .function && names.all (fun x => sc.names.lookup x == some .local || sc.names.lookup x == some .cell) && decide names.Nodup

theorem cellsFrom_has {x : Str} : ∀ (names : List (Str × NameKind)) (n : Nat) (acc : List (Str × Addr)), ((x, NameKind.cell) ∈ names ∨ (acc.lookup x).isSome = true) → ((cellsFrom n names acc).lookup x).isSome = true
  | [], n, acc, h => by
    rcases h with h | h
    · simp at h
    · exact h
  | (y, k) :: r, n, acc, h => by
    unfold cellsFrom
    split
    · refine cellsFrom_has r _ _ ?_
      by_cases e : (x == y) = true
      · right; rw [List.lookup_cons, e]; rfl
      · rcases h with h | h
        · rcases List.mem_cons.mp h with z | z
          · cases z; simp at e
          · exact .inl z
        · right; rw [List.lookup_cons]; simp only [e]; exact h
    · rename_i hk
      refine cellsFrom_has r _ _ (h.imp (fun h => ?_) id)
      rcases List.mem_cons.mp h with z | z
      · cases z; simp at hk
      · exact z

theorem bindL_out {kindOf : Str → Option NameKind} {x : Str} : ∀ {binds : List (Str × Value)} {m : Str → Option Value}, x ∉ binds.map (·.1) → bindL kindOf binds m x = m x
  | [], _, _ => rfl
  | (y, v) :: r, m, h => by
    unfold bindL
    simp only [List.map_cons, List.mem_cons, not_or] at h
    rw [bindL_out h.2]
    split
    · simp [h.1]
    · rfl
theorem bindC_out {kindOf : Str → Option NameKind} {x : Str} : ∀ {binds : List (Str × Value)} {m : Str → Option Value}, x ∉ binds.map (·.1) → bindC kindOf binds m x = m x
  | [], _, _ => rfl
  | (y, v) :: r, m, h => by
    unfold bindC
    simp only [List.map_cons, List.mem_cons, not_or] at h
    rw [bindC_out h.2]
    split
    · rfl
    · simp [h.1]
theorem bindL_in {kindOf : Str → Option NameKind} {x : Str} {v : Value} (hk : kindOf x = some .local) : ∀ {binds : List (Str × Value)} {m : Str → Option Value}, (binds.map (·.1)).Nodup → binds.lookup x = some v → bindL kindOf binds m x = some v
  | [], _, _, h => by simp at h
  | (y, u) :: r, m, hn, h => by
    unfold bindL
    simp only [List.map_cons, List.nodup_cons] at hn
    rw [List.lookup_cons] at h
    by_cases e : (x == y) = true
    · obtain rfl := eq_of_beq e
      simp only [BEq.rfl] at h; cases h
      rw [bindL_out hn.1, if_pos hk]; simp
    · simp only [e] at h
      exact bindL_in hk hn.2 h
theorem bindC_in {kindOf : Str → Option NameKind} {x : Str} {v : Value} (hk : kindOf x = some .cell) : ∀ {binds : List (Str × Value)} {m : Str → Option Value}, (binds.map (·.1)).Nodup → binds.lookup x = some v → bindC kindOf binds m x = some v
  | [], _, _, h => by simp at h
  | (y, u) :: r, m, hn, h => by
    unfold bindC
    simp only [List.map_cons, List.nodup_cons] at hn
    rw [List.lookup_cons] at h
    by_cases e : (x == y) = true
    · obtain rfl := eq_of_beq e
      simp only [BEq.rfl] at h; cases h
      rw [bindC_out hn.1, if_neg (by rw [hk]; simp)]; simp
    · simp only [e] at h
      exact bindC_in hk hn.2 h
theorem zip_rep {g : Gh} {x : Str} {p : PV} : ∀ {names : List Str} {ps : List PV} {xs : List Value}, RepL g ps xs → (names.zip ps).lookup x = some p → ∃ v, (names.zip xs).lookup x = some v ∧ Rep g p v
  | [], _, _, _, h => by simp at h
  | y :: r, [], _, _, h => by simp at h
  | y :: r, q :: ps, _, hr, h => by
    simp only [RepL] at hr
    obtain ⟨v, vs, rfl, h1, h2⟩ := hr
    simp only [List.zip_cons_cons, List.lookup_cons] at h ⊢
    by_cases e : (x == y) = true
    · simp only [e] at h ⊢
      cases h
      exact ⟨v, rfl, h1⟩
    · simp only [e] at h ⊢
      exact zip_rep h2 h
theorem zip_keys {α β : Type} : ∀ {xs : List α} {ys : List β}, xs.length = ys.length → (xs.zip ys).map (·.1) = xs
  | [], [], _ => rfl
  | x :: r, y :: s, h => by simp [zip_keys (xs := r) (ys := s) (by simpa using h)]
  | [], _ :: _, h => by simp at h
  | _ :: _, [], h => by simp at h

section
variable {w : World} {base : Heap} {n : Nat} {sc : Scope} {ρ ρ' : Rho} {ow ow' : Ow} {GL : Str → Option Value}

/-- the state of an activation at its entry -/
theorem GS.enter {A : Around} {g : Gh} {s s₁ : Shared} {fd : FuncData} {f : Addr} {names : List Str} {args : List PV} {xs : List Value} (hok : fnOk fd.scope names = true) (ok : Ok base (n + 1) A g s.heap) (hg : fd.globals = mainGlobals) (hbu : fd.builtins = builtinsNs) (hlen : xs.length = names.length) (rx : RepL g args xs)
    (x : InCallC s (callEnvC fd s.heap.objs.size f).locals (bindL (callEnvC fd s.heap.objs.size f).kindOf (names.zip xs) fun _ => none) (callEnvC fd s.heap.objs.size f).cells (bindC (callEnvC fd s.heap.objs.size f).kindOf (names.zip xs) fun _ => none) s₁) :
    GS base n (A.deeper (callEnvC fd s.heap.objs.size f)) (callEnvC fd s.heap.objs.size f) s.heap g g (names.zip args) none s₁.heap := by
  simp only [fnOk, Bool.and_eq_true, decide_eq_true_eq] at hok
  obtain ⟨⟨⟨⟨k1, k2⟩, k3⟩, k4⟩, k5⟩ := hok
  have hkeep := x.toInCall.keep
  have hfresh : s.heap.get? s.heap.objs.size = none := fresh_size _
  have hns := x.toInCall.ns
  have hkeys : ((names.zip xs).map (·.1)).Nodup := by rw [zip_keys hlen.symm]; exact k5
  have habove : ∀ y c, (y, c) ∈ (callEnvC fd s.heap.objs.size f).cells → s.heap.get? c = none := fun y c hm => by
    cases q : s.heap.get? c with
    | none => rfl
    | some o => exact absurd (Nat.lt_trans (x.above y c hm) (Heap.lt_size q)) (Nat.lt_irrefl _)
  refine ⟨⟨⟨fun b o e => hkeep b o (ok.sub b o e), ok.gb, ok.handled, ?_, ?_, ?_⟩, ⟨eq_of_beq k3, hg, hbu⟩, fun y v hy => ?_⟩, Soft.of_ext hkeep, fun _ _ e => e, fun _ _ e => .inl e, ⟨sub_none ok.sub hfresh, hfresh, _, hns⟩, fun y hy => ?_, fun y z c h1 h2 => ?_, fun y l e => nomatch e⟩
  · have := ok.depth
    show A.depth + 1 + n + 150 < recursionLimit
    omega
  · have := ok.units
    show A.units + 3 + 10 * n + 50 < cLine
    omega
  · obtain ⟨l, f1, f2⟩ := ok.frames
    refine ⟨_, Around.frames_deeper f1, ?_, fun env he => ?_⟩
    · refine Heap.FunFrames.cons (by show fd.scope.kind ≠ _; rw [eq_of_beq k3]; decide) rfl hns ?_ (f2.1.of_keeps fun b o e _ => ⟨o, hkeep b o e, rfl⟩)
      cases q : base.get? s.heap.objs.size with
      | none => rfl
      | some o => have z := ok.stays _ _ q; rw [hfresh] at z; cases z
    · rcases List.mem_cons.mp he with rfl | he
      · obtain ⟨o, es, ep, e1, e2, _⟩ := hns
        exact ⟨_, o, es, ep, rfl, e1, e2, sub_none ok.sub hfresh⟩
      · obtain ⟨L, o, es, ep, e1, e2, e3, e4⟩ := f2.2 env he
        exact ⟨L, o, es, ep, e1, hkeep _ _ e2, e3, e4⟩
  · obtain ⟨u, hu, ru⟩ := zip_rep rx hy
    have hmem : y ∈ names := by
      have := mem_of_lookup hu
      exact (List.of_mem_zip this).1
    have hk := List.all_eq_true.mp k4 y hmem
    rw [Bool.or_eq_true] at hk
    refine ⟨u, ?_, ru⟩
    rcases hk with hk | hk
    · have hk' : (callEnvC fd s.heap.objs.size f).kindOf y = some .local := eq_of_beq hk
      exact .inl ⟨hk', _, hns, bindL_in hk' hkeys hu⟩
    · have hk' : (callEnvC fd s.heap.objs.size f).kindOf y = some .cell := eq_of_beq hk
      have := cellsFrom_has fd.scope.names (s.heap.objs.size + 1) [] (.inl (mem_of_lookup hk'))
      obtain ⟨c, hc⟩ := Option.isSome_iff_exists.mp this
      obtain ⟨o, e1, e2⟩ := x.cell y c hc
      rw [bindC_in hk' hkeys hu] at e2
      exact .inr ⟨hk', c, o, hc, e1, e2⟩
  · have := cellsFrom_has fd.scope.names (s.heap.objs.size + 1) [] (.inl (mem_of_lookup hy))
    obtain ⟨c, hc⟩ := Option.isSome_iff_exists.mp this
    have hn := habove y c (mem_of_lookup hc)
    exact ⟨c, _, hc, x.cell y c hc, sub_none ok.sub hn, hn⟩
  · exact name_of_addr x.apart (mem_of_lookup h1) (mem_of_lookup h2)

/-- a call enters a def: what is left is its body -/
theorem enter {A : Around} {g : Gh} {s : Shared} {fd : FuncData} {f : Addr} {body : List Stmt} {names : List Str} {args : List PV} {a : Args} {xs : List Value} {Q E : Value → Shared → Prop} (W : Wd GL base) (F : Fn base f fd body) (hok : fnOk fd.scope names = true) (ok : Ok base (n + 1) A g s.heap) (hlen : xs.length = names.length) (rx : RepL g args xs)
    (hb : BindsTo s fd a (names.zip xs))
    (h : ∀ s₁ tk h₁, s₁ = { s with heap := h₁, toks := tk } → GS base n (A.deeper (callEnvC fd s.heap.objs.size f)) (callEnvC fd s.heap.objs.size f) s.heap g g (names.zip args) none s₁.heap →
      wpAny (MD w) (A.deeper (callEnvC fd s.heap.objs.size f)) (execs body (callEnvC fd s.heap.objs.size f)) (fun fl s' => Q (match fl with | .ret v => v | _ => .none) s')
        (fun e s' => wpAny (MD w) (A.deeper (callEnvC fd s.heap.objs.size f)) (leaving (callEnvC fd s.heap.objs.size f) e) (fun _ s'' => E e s'') (fun e' s'' => E e' s'') s') s₁) : wpAny (MD w) A (call (.ref f) a.pos a.kw) Q E s := by
  have hok' := hok
  simp only [fnOk, Bool.and_eq_true, decide_eq_true_eq] at hok'
  obtain ⟨⟨⟨⟨k1, k2⟩, k3⟩, k4⟩, k5⟩ := hok'
  obtain ⟨o, ho, hd⟩ := F.obj
  have hdep := ok.depth
  have st := ok.stays
  refine wpAny_call ?_
  refine codeAny_call_function (by omega) (st _ _ ho) hd (by simpa using k1) (by simpa using k2) F.body (F.code.keeps st) (hb _ _ _ _ ?_)
  rw [F.clo]
  refine wpAny_newFunctionEnv_cells (eq_of_beq k3) (fun y hy => ?_) fun env he s' x => ?_
  · have hmem : y.1 ∈ names := (List.of_mem_zip (show (y.1, y.2) ∈ names.zip xs from hy)).1
    have hk := List.all_eq_true.mp k4 y.1 hmem
    rw [Bool.or_eq_true] at hk
    exact hk.imp eq_of_beq fun hk => ⟨eq_of_beq hk, cellsFrom_has _ _ _ (.inl (mem_of_lookup (eq_of_beq hk)))⟩
  · subst he
    refine ⟨(W.nolimit.keeps st).keeps x.toInCall.keep, codeAny_func ?_⟩
    obtain ⟨h₁, tk, e, _⟩ := x.done
    exact h s' tk h₁ e (GS.enter hok ok F.glob F.bui hlen rx x)

theorem CON.fn {fd : FuncData} {f : Addr} {body : List Stmt} {names : List Str} {args : List PV} {r : PV} (W : Wd GL base) (F : Fn base f fd body) (hok : fnOk fd.scope names = true) (hlen : args.length = names.length)
    (hb : ∀ (s : Shared) (xs : List Value), base.StaysIn s.heap → xs.length = names.length → BindsTo s fd ⟨xs, []⟩ (names.zip xs))
    (h : SXs w base n fd.scope (names.zip args) none body (.ret r)) : CON w base (n + 1) (.ref f) args r := fun A g s xs ok rx Q E hq => by
  have hl : xs.length = names.length := rx.length.trans hlen
  refine enter (a := ⟨xs, []⟩) W F hok ok hl rx (hb s xs ok.stays hl) fun s₁ tk h₁ e G => ?_
  refine h _ _ _ _ g s₁ rfl G _ _ fun fl h' tk' g' hout => ?_
  obtain ⟨pv, rfl, st, rv⟩ := hout
  subst e
  exact hq pv h' tk' g' st rv
end
end Mine
end
section
open PySem PySem.W PyProof.Rows PySem.Calls PySem.SeqAt
set_option maxRecDepth 100000
namespace Mine

noncomputable def stAt (i : Nat) : Stmt := prog.main.body.getD i (.Pass ⟨0, 0, 0, 0⟩)
noncomputable def bodyOf : Stmt → List Stmt
  | .FunctionDef _ _ body .. => body
  | _ => []
noncomputable def scopeOf : Stmt → Scope
  | .FunctionDef _ _ _ _ _ _ scope .. => scope
  | _ => prog.main.scope

/-- the def st lies at f -/
noncomputable def IsDef (base : Heap) (f : Addr) (st : Stmt) (names : List Str) : Prop :=
  ∃ fd, Fn base f fd (bodyOf st) ∧ fd.scope = scopeOf st ∧ ∀ (s : Shared) (xs : List Value), base.StaysIn s.heap → xs.length = names.length → BindsTo s fd ⟨xs, []⟩ (names.zip xs)

section
variable {w : World} {base : Heap} {n : Nat} {sc : Scope} {ρ ρ' : Rho} {ow ow' : Ow} {GL : Str → Option Value}
theorem IsDef.calls {f : Addr} {st : Stmt} {names : List Str} (D : IsDef base f st names) : Calls base (.ref f) := let ⟨_, F, _⟩ := D; F.calls
theorem CON.def {f : Addr} {st : Stmt} {names : List Str} {args : List PV} {r : PV} (W : Wd GL base) (D : IsDef base f st names) (hok : fnOk (scopeOf st) names = true) (hlen : args.length = names.length)
    (h : SXs w base n (scopeOf st) (names.zip args) none (bodyOf st) (.ret r)) : CON w base (n + 1) (.ref f) args r := by
  obtain ⟨fd, F, hs, hb⟩ := D
  rw [← hs] at hok h
  exact CON.fn W F hok hlen hb h
end
end Mine
end
section
open PySem PySem.W PyProof.Rows PySem.Calls PySem.SeqAt
open AutoSeq1 (wpAny_loadPart')
set_option maxRecDepth 100000
namespace Mine

theorem enumNewT (l : Addr) (items : Array Value) (n : Nat) (dct : Option Addr) (sl : Array (Option Value)) :
    Meets (Builtin.«enumerate.__new__» ⟨[.type "enumerate", .ref l], []⟩) (fun _ R s => s.heap.get? l = some { cls := .type "tuple", dict := dct, data := .seq items n, slots := sl } ∧
      R (.ok (.ret (.ref (s.heap.push { cls := .type "tuple_iterator", data := .fields #[.ref l, .int 0 0] }).objs.size)))
        { s with heap := (s.heap.push { cls := .type "tuple_iterator", data := .fields #[.ref l, .int 0 0] }).push { cls := .type "enumerate", data := .fields #[.none, .bool false, .ref s.heap.objs.size, rawInt 0, .none, .none] } }) :=
  .of_wp fun prog w A R s h => by
    obtain ⟨hp, g, d, tk, os⟩ := s; obtain ⟨hl, h⟩ := h
    have hsub := sub_enumerate
    have hL : Heap.IsTuple (Shared.heap ⟨hp, g, d, tk, os⟩) l items := ⟨_, hl, rfl, n, rfl⟩
    wp_walk using wpAny_loadPart' hl
    refine wpAny_stack_any fun st => wpAny_pure ?_
    split
    · rename_i c _ _ _ _ _
      cases (c == Value.type "enumerate")
      · wp_walk using wpAny_loadPart' hl, wpAny_pyIter_tuple hL
        exact ⟨_, rfl, h⟩
      · wp_walk using wpAny_loadPart' hl, wpAny_pyIter_tuple hL
        exact ⟨_, rfl, h⟩
    · wp_walk using wpAny_loadPart' hl, wpAny_pyIter_tuple hL
      exact ⟨_, rfl, h⟩

section
variable {w : World} {A : Around} {E : Value → Shared → Prop} {s : Shared}

theorem callEnumT {l : Addr} {items : Array Value} {Q : Value → Shared → Prop} (hL : s.heap.IsTuple l items)
    (h : ∀ h', IsEnum h' (s.heap.objs.size + 1) s.heap.objs.size 0 .none → h'.IsTupleIter s.heap.objs.size l 0 →
      (∀ b o, s.heap.get? b = some o → h'.get? b = some o) → Q (.ref (s.heap.objs.size + 1)) { s with heap := h' }) :
    wpAny (MD w) A (call (.type "enumerate") [.ref l]) Q E s := by
  obtain ⟨⟨c, dct, dt, sl⟩, hl, hc, n, hd⟩ := hL
  replace hc : c = .type "tuple" := hc
  replace hd : dt = .seq items n := hd
  subst hc hd
  refine callType_new F.called_enumerate (by decide) (F.typeCall_enumerate_1 _) (F.newCall_enumerate_1 _) (fun obj => F.args_object_init_2 obj _) F.entry_enumerate_new
    (enumNewT l items n dct sl) ⟨hl, ?_⟩
  have hz : (s.heap.push { cls := .type "tuple_iterator", data := .fields #[.ref l, .int 0 0] }).objs.size = s.heap.objs.size + 1 := Heap.size_push ..
  show _ ∧ _
  rw [hz]
  have he : IsEnum ((s.heap.push { cls := .type "tuple_iterator", data := .fields #[.ref l, .int 0 0] }).push
      { cls := .type "enumerate", data := .fields #[.none, .bool false, .ref s.heap.objs.size, rawInt 0, .none, .none] }) (s.heap.objs.size + 1) s.heap.objs.size 0 .none := by
    have := Heap.get?_push_size (s.heap.push { cls := .type "tuple_iterator", data := .fields #[.ref l, .int 0 0] })
      (o := { cls := .type "enumerate", data := .fields #[.none, .bool false, .ref s.heap.objs.size, rawInt 0, .none, .none] }) rfl
    rw [hz] at this; exact this
  exact ⟨⟨_, he, rfl⟩, h _ he ⟨_, Heap.get?_push_of_some _ (Heap.get?_push_size _ rfl), rfl, rfl⟩ fun b o x => Heap.get?_push_of_some _ (Heap.get?_push_of_some _ x)⟩

theorem nextOfT_item {it t : Addr} {i : Nat} {items} {x : Value} {Q : Value → Shared → Prop} (hit : s.heap.IsTupleIter it t i)
    (ht : s.heap.IsTuple t items) (hx : items[i]? = some x)
    (hQ : ∀ h', h'.IsTupleIter it t (i + 1) → Heap.SameBut it s.heap h' → Q x { s with heap := h' }) :
    wpAny (MD w) A (Builtin.SmallTypes.nextOf (.ref it)) Q E s := by
  obtain ⟨o, ho, hc, hd⟩ := id hit
  obtain ⟨ol, hol, _, nl, hdl⟩ := ht
  unfold Builtin.SmallTypes.nextOf
  refine wpAny_bind (wpAny_callSpecial?_slot (name := Str.ofString "__next__") hit.typeIs F.slot_tuple_iterator_next
    (wpAny_call_entry F.slot_tuple_iterator_next hit.typeIs F.entry_tuple_iterator_next ?_ (F.args_tuple_iterator_next_1 _)))
  show wpAny _ _ (field (.ref it) 0 >>= _) _ _ s
  refine wpAny_bind (wpAny_field ho hd (x := .ref t) rfl ?_)
  show wpAny _ _ (if (Value.ref t == Value.none) = true then _ else _) _ _ s
  rw [if_neg (show ¬ ((Value.ref t == Value.none) = true) from Bool.false_ne_true)]
  show wpAny _ _ (field (.ref it) 1 >>= _) _ _ s
  refine wpAny_bind (wpAny_field ho hd (x := .int i 0) rfl ?_)
  show wpAny _ _ (seqItems? (.ref t) >>= _) _ _ s
  refine wpAny_bind (wpAny_seqItems hol hdl ?_)
  simp only [Int.toNat_natCast, hx]
  refine wpAny_bind (wpAny_setField ho hd (by simp) (wpAny_pure ⟨x, rfl, wpAny_pure (hQ _ ?_ (Heap.SameBut.update ..))⟩))
  exact ⟨_, Heap.get?_update_self _ ho (Obj.isFreed_of_fields (Obj.data_mapFields hd _)), (Obj.cls_mapFields ..).trans hc, by
    rw [Obj.data_mapFields hd]; simp [rawInt]⟩

theorem nextOfT_end {it t : Addr} {i : Nat} {items} {Q : Value → Shared → Prop} (hh : A.handled = none)
    (hit : s.heap.IsTupleIter it t i) (ht : s.heap.IsTuple t items) (hx : items[i]? = none)
    (hE : ∀ h' e, Heap.ExtBut it s.heap h' → (∃ o, h'.get? e = some o ∧ o.cls = .type "StopIteration") → E (.ref e) { s with heap := h' }) :
    wpAny (MD w) A (Builtin.SmallTypes.nextOf (.ref it)) Q E s := by
  obtain ⟨o, ho, hc, hd⟩ := id hit
  obtain ⟨ol, hol, _, nl, hdl⟩ := ht
  unfold Builtin.SmallTypes.nextOf
  refine wpAny_bind (wpAny_callSpecial?_slot (name := Str.ofString "__next__") hit.typeIs F.slot_tuple_iterator_next
    (wpAny_call_entry F.slot_tuple_iterator_next hit.typeIs F.entry_tuple_iterator_next ?_ (F.args_tuple_iterator_next_1 _)))
  show wpAny _ _ (field (.ref it) 0 >>= _) _ _ s
  refine wpAny_bind (wpAny_field ho hd (x := .ref t) rfl ?_)
  show wpAny _ _ (if (Value.ref t == Value.none) = true then _ else _) _ _ s
  rw [if_neg (show ¬ ((Value.ref t == Value.none) = true) from Bool.false_ne_true)]
  show wpAny _ _ (field (.ref it) 1 >>= _) _ _ s
  refine wpAny_bind (wpAny_field ho hd (x := .int i 0) rfl ?_)
  show wpAny _ _ (seqItems? (.ref t) >>= _) _ _ s
  refine wpAny_bind (wpAny_seqItems hol hdl ?_)
  simp only [Int.toNat_natCast, hx]
  refine wpAny_bind (wpAny_rule (wpAny_bind (wpAny_setField ho hd (by simp) ?_)))
  show wpAny _ _ (newExc (.type "StopIteration") [] >>= _) _ _ _
  refine wpAny_bind ?_
  simp only [newExc, newTuple]
  refine wpAny_bind (wpAny_newObj_type ?_ (by size_fits))
  refine wpAny_bind (m := firstArgMember _ _) (wpAny_of_eq (a := Value.none) (by first | rfl | (simp only [firstArgMember]; rfl)) ?_)
  refine wpAny_newObj_type ?_ (by size_fits)
  simp only [raiseNew]
  refine wpAny_bind (wpAny_handled ?_)
  first | rw [show A.in1.handled = none from hh] | rw [hh]
  refine wpAny_bind (wpAny_pure (wpAny_throw ?_))
  exact hE _ _ (((Heap.SameBut.update ..).extBut.push _).push _) ⟨_, Heap.get?_push_size _ rfl, rfl⟩
end

theorem drawsT {w : World} {A : Around} (hh : A.handled = none) (it l : Addr) (hne : l ≠ it) (items : Array Value) :
    Draws prog w A it [it, l] items.size (fun i v => items[i]? = some v) (fun i h => h.IsTupleIter it l i ∧ h.IsTuple l items) where
  live := fun _ _ st => let ⟨o, ho, _⟩ := st.1; ⟨o, ho⟩
  frame := fun _ _ _ st hk => ⟨let ⟨o, e, r⟩ := st.1; ⟨o, hk it (by simp) o e, r⟩, let ⟨o, e, r⟩ := st.2; ⟨o, hk l (by simp) o e, r⟩⟩
  item := fun i s Q E hi st hQ => by
    refine nextOfT_item st.1 st.2 (x := items[i]) (by simp [hi]) fun h' hit' hs' => ?_
    exact hQ _ h' s.toks (by simp [hi]) ⟨hit', st.2.extBut hs'.extBut hne⟩ hs'
  done := fun s Q E st hE => nextOfT_end hh st.1 st.2 (by simp) hE

section
variable {w : World} {base : Heap} {n : Nat} {sc : Scope} {ρ ρ' : Rho} {ow ow' : Ow} {GL : Str → Option Value}

/-- the pairs that enumerate makes -/
noncomputable def enumL (l : List PV) : List PV := l.zipIdx.map fun p => .tup [.int p.2, p.1]

theorem FE.enumT {x : Str} {p pos : Pos} {e : Expr} {l : List PV} {elts : List Expr} {k : Nat} {tpos : Pos} (hf : EV w base n sc ρ (.Name x p) (.ref (.type "enumerate"))) (he : EVs w base n sc ρ [e] [.tup l])
    (hp : ∀ env, (backTo pos (starEach [e] env)).any (·.1) = false := by intros; rfl) (hne : ∀ env, ∃ x r, backTo pos (starEach [e] env) = x :: r := by intros; exact ⟨_, _, rfl⟩) :
    FE w base n sc ρ (.Call (.Name x p) [e] [] pos) (.Tuple elts k tpos) (enumL l) := fun A env g s Q E hs G hq => by
  show wpAny _ _ (do callWith pos (← eval (.Name x p) env) [] (backTo pos (starEach [e] env)) (backToKw pos (keywordEach [] env))) _ E s
  refine wpAny_bind (hf A env g s hs G _ _ fun fv h₁ tk₁ g₁ st₁ rf => ?_)
  obtain rfl := unR rf
  refine callWith_vals .type hs (G.step st₁) he (hp env) (hne env) fun xs h₂ tk₂ g₂ st₂ rx => ?_
  obtain ⟨v, rfl, rv⟩ := un1 rx
  obtain ⟨a, o, m, items, rfl, e1, e2, e3, e4⟩ := unT rv
  have hlen : items.size = l.length := by have := e4.length; simpa using this
  have ht : h₂.IsTuple a items := ⟨o, st₂.sub _ _ e1, e2, m, e3⟩
  have st := st₁.trans st₂
  refine callEnumT (s := { s with heap := h₂, toks := tk₂ }) ht fun h₃ hE hI ext => ?_
  have hai : a ≠ h₂.objs.size := Nat.ne_of_lt (Heap.lt_size (st₂.sub _ _ e1))
  have hae : a ≠ h₂.objs.size + 1 := fun z => Nat.lt_irrefl _ (Nat.lt_trans (Nat.lt_succ_self _) (z ▸ Heap.lt_size (st₂.sub _ _ e1)))
  generalize hit : h₂.objs.size = it at *
  generalize hen : it + 1 = en at *
  have hei : en ≠ it := by subst hen; exact Nat.ne_of_gt (Nat.lt_succ_self _)
  have ht₃ : h₃.IsTuple a items := let ⟨o, e, r⟩ := ht; ⟨o, ext _ _ e, r⟩
  have T := WalksT.enumerateD (prog := prog) (w := w) (A := A) (drawsT (by show A.handled = none; exact G.ok.handled) it a hai items) en hei (by simp [hei, Ne.symm hae]) (by simp)
  have nit : h₂.get? it = none := by rw [← hit]; exact fresh_size _
  have nen : h₂.get? en = none := by
    cases q : h₂.get? en with
    | none => rfl
    | some o' => have := Heap.lt_size q; rw [← hen, ← hit] at this; exact absurd this (Nat.not_lt.mpr (Nat.le_succ _))
  have hwr : ∀ b ∈ [en, it], h₂.get? b = none := fun b hb => by
    rcases List.mem_cons.mp hb with rfl | hb
    · exact nen
    · rw [List.mem_singleton.mp hb]; exact nit
  have old : ∀ b o, s.heap.get? b = some o → b ∉ [en, it] := fun b o e hb => by
    obtain ⟨o', z⟩ := st.ext.ex ⟨o, e⟩
    rw [hwr b hb] at z; cases z
  refine wpAny_pyIter_enum hE ?_
  refine hq (.ref en) (fun i h => (∃ old, IsEnum h en it i old) ∧ h.IsTupleIter it a i ∧ h.IsTuple a items) (· ∈ [en, it]) h₃ tk₂ g₂ (st.trans (Step.of_ext st₂.sub ext)) ⟨⟨_, hE⟩, hI, ht₃⟩ (fun b hb => sub_none st₂.sub (hwr b hb)) (fun i h b hst hb => ?_) (fun i ha hb g₃ g₄ hst sa kf sb => ?_) (fun i s₁ g₃ Q₁ E₁ hi hst hgg hsub hnew hQ => ?_) (fun s₁ g₃ Q₁ E₁ hst hgg hsub hnew hQ => ?_)
  · obtain ⟨⟨old, z⟩, ⟨o', z1, _, z3⟩, _⟩ := hst
    rcases List.mem_cons.mp hb with rfl | hb
    · exact ⟨_, _, z, rfl⟩
    · rw [List.mem_singleton.mp hb]; exact ⟨o', _, z1, z3⟩
  · obtain ⟨⟨old, z⟩, ⟨o', z1, z2, z3⟩, z4⟩ := hst
    exact ⟨⟨old, (kf _ _ _ z rfl).1⟩, ⟨o', (kf _ _ _ z1 z3).1, z2, z3⟩, ⟨o, sb _ _ e1, e2, m, e3⟩⟩
  · have hi' : i < items.size := by simpa [enumL, hlen] using hi
    refine T.item i s₁ _ _ hi' hst fun Tn vals h₄ tk₄ hv hfresh htup hmid hk => ⟨.ref Tn, rfl, ?_⟩
    refine T.go elts k tpos i Tn _ _ _ hmid fun h₅ hst₅ hk₅ => ?_
    obtain ⟨tok, x', hx', rfl⟩ := hv
    obtain ⟨oT, hT1, hT2, mT, hT3⟩ := htup
    have hTn : Tn ∉ [en, it] := T.apart i Tn _ hmid
    have hT5 : h₅.get? Tn = some oT := hk₅ _ _ hTn hT1
    have hTs : s₁.heap.get? Tn = none := by
      cases q : s₁.heap.get? Tn with
      | none => rfl
      | some o' => exact absurd (Heap.lt_size q) (Nat.not_lt.mpr hfresh)
    have up : ∀ b o, b ∉ [en, it] → s₁.heap.get? b = some o → h₅.get? b = some o := fun b o hb e => hk₅ b o hb (hk b o hb e)
    obtain ⟨q', hq'⟩ : ∃ q', l[i]? = some q' := ⟨l[i]'(by omega), List.getElem?_eq_getElem (by omega)⟩
    obtain ⟨u, hu, ru⟩ := e4.get hq'
    have hux : u = x' := by
      have : items[i]? = some u := by simpa using hu
      rw [hx'] at this; exact (Option.some.inj this).symm
    subst hux
    have hgr : ∀ b o, g₃ b = some o → (fun b => if b = Tn then some oT else g₃ b) b = some o := fun b o e => by
      have : b ≠ Tn := fun z => by rw [z] at e; rw [hsub _ _ e] at hTs; cases hTs
      simp only [this, if_false]; exact e
    refine hQ (.ref Tn) (.tup [.int i, q']) h₅ tk₄ (fun b => if b = Tn then some oT else g₃ b) ?_ ?_ hst₅ ⟨?_, ?_, hgr, ?_, ?_⟩ ?_
    · simp [enumL, List.getElem?_map, List.getElem?_zipIdx, hq']
    · simp only [Rep]
      refine ⟨Tn, oT, mT, _, rfl, if_pos rfl, hT2, hT3, ?_⟩
      refine RepL.cons repI (RepL.cons ?_ RepL.nil)
      exact (ru.mono hgg).mono hgr
    · exact fun b o' e e' => up b o' (old b o' e) e'
    · intro b o' e hf
      refine up b o' (fun hb => ?_) e
      obtain ⟨⟨old, z⟩, ⟨o'', z1, _, z3⟩, _⟩ := hst
      rcases List.mem_cons.mp hb with rfl | hb
      · rw [z] at e; cases e; exact hf _ rfl
      · rw [List.mem_singleton.mp hb, z1] at e; cases e; exact hf _ z3
    · intro b o' e
      by_cases hb : b = Tn
      · exact .inr (hb ▸ hTs)
      · simp only [hb, if_false] at e; exact .inl e
    · intro b o' e
      by_cases hb : b = Tn
      · subst hb; simp only [if_true] at e; cases e; exact hT5
      · simp only [hb, if_false] at e
        exact up b o' (fun z => by rw [hnew b z] at e; cases e) (hsub b o' e)
    · intro b hb
      have : b ≠ Tn := fun z => hTn (z ▸ hb)
      simp only [this, if_false]; exact hnew b hb
  · have hlen' : (enumL l).length = items.size := by simp [enumL, hlen]
    rw [hlen'] at hst
    refine T.done s₁ _ _ hst fun h₄ tk₄ hk => hQ h₄ tk₄ ⟨fun b o' e e' => hk b o' (old b o' e) e', fun b o' e hf => hk b o' (fun hb => ?_) e, fun _ _ e => e, fun _ _ e => .inl e, fun b o' e => hk b o' (fun z => by rw [hnew b z] at e; cases e) (hsub b o' e)⟩
    obtain ⟨⟨old, z⟩, ⟨o'', z1, _, z3⟩, _⟩ := hst
    rcases List.mem_cons.mp hb with rfl | hb
    · rw [z] at e; cases e; exact hf _ rfl
    · rw [List.mem_singleton.mp hb, z1] at e; cases e; exact hf _ z3
end
end Mine
end
section
open PySem PySem.W PyProof.Rows PySem.Calls PySem.SeqAt
set_option linter.unusedSimpArgs false
set_option maxRecDepth 100000
namespace Mine

structure ev (w : World) (base : Heap) (n : Nat) (sc : Scope) (ρ : Rho) (e : Expr) (v : PV) : Prop where
  raw : EV w base n sc ρ e v
theorem ev_iff {w : World} {base : Heap} {n : Nat} {sc : Scope} {ρ : Rho} {e : Expr} {v : PV} : ev w base n sc ρ e v ↔ EV w base n sc ρ e v := ⟨fun h => h.raw, fun h => ⟨h⟩⟩

structure evs (w : World) (base : Heap) (n : Nat) (sc : Scope) (ρ : Rho) (e : List Expr) (v : List PV) : Prop where
  raw : EVs w base n sc ρ e v
theorem evs_iff {w : World} {base : Heap} {n : Nat} {sc : Scope} {ρ : Rho} {e : List Expr} {v : List PV} : evs w base n sc ρ e v ↔ EVs w base n sc ρ e v := ⟨fun h => h.raw, fun h => ⟨h⟩⟩

structure tv (w : World) (base : Heap) (n : Nat) (sc : Scope) (ρ : Rho) (e : Expr) (v : Bool) : Prop where
  raw : TV w base n sc ρ e v
theorem tv_iff {w : World} {base : Heap} {n : Nat} {sc : Scope} {ρ : Rho} {e : Expr} {v : Bool} : tv w base n sc ρ e v ↔ TV w base n sc ρ e v := ⟨fun h => h.raw, fun h => ⟨h⟩⟩

structure tvs (w : World) (base : Heap) (n : Nat) (sc : Scope) (ρ : Rho) (e : List Expr) (v : Bool) : Prop where
  raw : TVs w base n sc ρ e v
theorem tvs_iff {w : World} {base : Heap} {n : Nat} {sc : Scope} {ρ : Rho} {e : List Expr} {v : Bool} : tvs w base n sc ρ e v ↔ TVs w base n sc ρ e v := ⟨fun h => h.raw, fun h => ⟨h⟩⟩

structure sx (w : World) (base : Heap) (n : Nat) (sc : Scope) (ρ : Rho) (ow : Ow) (st : Stmt) (out : Out) : Prop where
  raw : SX w base n sc ρ ow st out
theorem sx_iff {w : World} {base : Heap} {n : Nat} {sc : Scope} {ρ : Rho} {ow : Ow} {st : Stmt} {out : Out} : sx w base n sc ρ ow st out ↔ SX w base n sc ρ ow st out := ⟨fun h => h.raw, fun h => ⟨h⟩⟩

structure sxs (w : World) (base : Heap) (n : Nat) (sc : Scope) (ρ : Rho) (ow : Ow) (st : List Stmt) (out : Out) : Prop where
  raw : SXs w base n sc ρ ow st out
theorem sxs_iff {w : World} {base : Heap} {n : Nat} {sc : Scope} {ρ : Rho} {ow : Ow} {st : List Stmt} {out : Out} : sxs w base n sc ρ ow st out ↔ SXs w base n sc ρ ow st out := ⟨fun h => h.raw, fun h => ⟨h⟩⟩

structure asg (w : World) (base : Heap) (n : Nat) (sc : Scope) (ρ : Rho) (ow : Ow) (t : Expr) (q : PV) (ρ' : Rho) : Prop where
  raw : AS w base n sc ρ ow t q ρ'
theorem asg_iff {w : World} {base : Heap} {n : Nat} {sc : Scope} {ρ : Rho} {ow : Ow} {t : Expr} {q : PV} {ρ' : Rho} : asg w base n sc ρ ow t q ρ' ↔ AS w base n sc ρ ow t q ρ' := ⟨fun h => h.raw, fun h => ⟨h⟩⟩

structure fe (w : World) (base : Heap) (n : Nat) (sc : Scope) (ρ : Rho) (iter target : Expr) (items : List PV) : Prop where
  raw : FE w base n sc ρ iter target items
theorem fe_iff {w : World} {base : Heap} {n : Nat} {sc : Scope} {ρ : Rho} {iter target : Expr} {items : List PV} : fe w base n sc ρ iter target items ↔ FE w base n sc ρ iter target items := ⟨fun h => h.raw, fun h => ⟨h⟩⟩

section
variable {w : World} {base : Heap} {n : Nat} {sc : Scope} {ρ ρ' : Rho} {ow ow' : Ow} {GL : Str → Option Value}

theorem ev.int {i : Int} {k : Nat} {pos : Pos} : ev w base n sc ρ (.Constant (.int i) k pos) (.int i) := by
  simp only [ev_iff, evs_iff, tv_iff, tvs_iff, sx_iff, sxs_iff, asg_iff, fe_iff] at *
  exact EV.int 

theorem ev.str {x : Str} {k : Nat} {pos : Pos} : ev w base n sc ρ (.Constant (.str x) k pos) (.str x) := by
  simp only [ev_iff, evs_iff, tv_iff, tvs_iff, sx_iff, sxs_iff, asg_iff, fe_iff] at *
  exact EV.str 

theorem ev.none {k : Nat} {pos : Pos} : ev w base n sc ρ (.Constant .none k pos) .none := by
  simp only [ev_iff, evs_iff, tv_iff, tvs_iff, sx_iff, sxs_iff, asg_iff, fe_iff] at *
  exact EV.none 

theorem ev.bool {b : Bool} {k : Nat} {pos : Pos} : ev w base n sc ρ (.Constant (.bool b) k pos) (.bool b) := by
  simp only [ev_iff, evs_iff, tv_iff, tvs_iff, sx_iff, sxs_iff, asg_iff, fe_iff] at *
  exact EV.bool 

theorem ev.name {x : Str} {pos : Pos} {v : PV} (h : ρ.lookup x = some v) (hd : (x == ("__debug__" : Str)) = false := by decide) : ev w base n sc ρ (.Name x pos) v := by
  simp only [ev_iff, evs_iff, tv_iff, tvs_iff, sx_iff, sxs_iff, asg_iff, fe_iff] at *
  exact EV.name h hd

theorem ev.glob (W : Wd GL base) {x : Str} {pos : Pos} {v : Value} (h : GL x = some v) (hx : sc.names.lookup x = some .globalImplicit) (hd : (x == ("__debug__" : Str)) = false := by decide) : ev w base n sc ρ (.Name x pos) (.ref v) := by
  simp only [ev_iff, evs_iff, tv_iff, tvs_iff, sx_iff, sxs_iff, asg_iff, fe_iff] at *
  exact EV.glob W h hx hd

theorem ev.globv (W : Wd GL base) {x : Str} {pos : Pos} {v : Value} {p : PV} (h : GL x = some v) (hx : sc.names.lookup x = some .globalImplicit) (hr : Rep base.get? p v) (hd : (x == ("__debug__" : Str)) = false := by decide) : ev w base n sc ρ (.Name x pos) p := by
  simp only [ev_iff, evs_iff, tv_iff, tvs_iff, sx_iff, sxs_iff, asg_iff, fe_iff] at *
  exact EV.globv W h hx hr hd

theorem ev.binop {l r : Expr} {op : Operator} {pos : Pos} {a b v : PV} (hl : ev w base n sc ρ l a) (hr : ev w base n sc ρ r b) (hp : P2 w base n (binaryOp op) a b v) : ev w base n sc ρ (.BinOp l op r pos) v := by
  simp only [ev_iff, evs_iff, tv_iff, tvs_iff, sx_iff, sxs_iff, asg_iff, fe_iff] at *
  exact EV.binop hl hr hp

theorem ev.cmp {l r : Expr} {op : CmpOp} {pos : Pos} {a b v : PV} (hl : ev w base n sc ρ l a) (hr : ev w base n sc ρ r b) (hp : P2 w base n (compareOp op) a b v) (hm : behindInMarks op r = false := by with_unfolding_all rfl) : ev w base n sc ρ (.Compare l [op] [r] pos) v := by
  simp only [ev_iff, evs_iff, tv_iff, tvs_iff, sx_iff, sxs_iff, asg_iff, fe_iff] at *
  exact EV.cmp hl hr hp hm

theorem ev.unary {x : Expr} {op : UnaryOp} {pos : Pos} {a v : PV} (hl : ev w base n sc ρ x a) (hp : P1 w base n (unaryOp op) a v) : ev w base n sc ρ (.UnaryOp op x pos) v := by
  simp only [ev_iff, evs_iff, tv_iff, tvs_iff, sx_iff, sxs_iff, asg_iff, fe_iff] at *
  exact EV.unary hl hp

theorem evs.nil : evs w base n sc ρ [] [] := by
  simp only [ev_iff, evs_iff, tv_iff, tvs_iff, sx_iff, sxs_iff, asg_iff, fe_iff] at *
  exact EVs.nil 

theorem evs.cons {e : Expr} {es : List Expr} {v : PV} {vs : List PV} (h : ev w base n sc ρ e v) (hr : evs w base n sc ρ es vs) (he : plainE e = true := by rfl) : evs w base n sc ρ (e :: es) (v :: vs) := by
  simp only [ev_iff, evs_iff, tv_iff, tvs_iff, sx_iff, sxs_iff, asg_iff, fe_iff] at *
  exact EVs.cons h hr he

theorem ev.list {es : List Expr} {vs : List PV} {pos : Pos} (h : evs w base n sc ρ es vs) (hz : Nat.ble vs.length 64 = true := by rfl) : ev w base n sc ρ (.List es pos) (.list vs) := by
  simp only [ev_iff, evs_iff, tv_iff, tvs_iff, sx_iff, sxs_iff, asg_iff, fe_iff] at *
  exact EV.list h hz

theorem ev.tup {es : List Expr} {vs : List PV} {k : Nat} {pos : Pos} (h : evs w base n sc ρ es vs) (hz : Nat.ble vs.length 64 = true := by rfl) : ev w base n sc ρ (.Tuple es k pos) (.tup vs) := by
  simp only [ev_iff, evs_iff, tv_iff, tvs_iff, sx_iff, sxs_iff, asg_iff, fe_iff] at *
  exact EV.tup h hz

theorem ev.index {value slice : Expr} {pos : Pos} {o i r : PV} (ho : ev w base n sc ρ value o) (hi : ev w base n sc ρ slice i) (hx : IX w base n o i r) (hs : ∀ a b, subscripted slice false a b = operate [a, b] (getItem a b) := by intros; rfl) :
    ev w base n sc ρ (.Subscript value slice pos) r := by
  simp only [ev_iff, evs_iff, tv_iff, tvs_iff, sx_iff, sxs_iff, asg_iff, fe_iff] at *
  exact EV.index ho hi hx hs

theorem tv.cmp {l r : Expr} {op : CmpOp} {pos : Pos} {a b v : PV} {c : Bool} (hl : ev w base n sc ρ l a) (hr : ev w base n sc ρ r b) (hp : P2 w base n (compareOp op) a b v) (hb : PB w base n v c) (hm : behindInMarks op r = false := by with_unfolding_all rfl) : tv w base n sc ρ (.Compare l [op] [r] pos) c := by
  simp only [ev_iff, evs_iff, tv_iff, tvs_iff, sx_iff, sxs_iff, asg_iff, fe_iff] at *
  exact TV.cmp hl hr hp hb hm

theorem tv.not {x : Expr} {pos : Pos} {b : Bool} (h : tv w base n sc ρ x b) : tv w base n sc ρ (.UnaryOp .Not x pos) (!b) := by
  simp only [ev_iff, evs_iff, tv_iff, tvs_iff, sx_iff, sxs_iff, asg_iff, fe_iff] at *
  exact TV.not h

theorem tv.val {e : Expr} {v : PV} {b : Bool} (h : ev w base n sc ρ e v) (hb : PB w base n v b) (he : ∀ env whole, isTrue e env whole = (do let v ← whole; standAt e.pos; holding [v] (truthy v)) := by intros; rfl) : tv w base n sc ρ e b := by
  simp only [ev_iff, evs_iff, tv_iff, tvs_iff, sx_iff, sxs_iff, asg_iff, fe_iff] at *
  exact TV.val h hb he

theorem tv.and {x y : Expr} {pos : Pos} {a b : Bool} (hx : tv w base n sc ρ x a) (hy : a = true → tv w base n sc ρ y b) : tv w base n sc ρ (.BoolOp .And [x, y] pos) (a && b) := by
  simp only [ev_iff, evs_iff, tv_iff, tvs_iff, sx_iff, sxs_iff, asg_iff, fe_iff] at *
  exact TV.and hx hy

theorem tv.or {x y : Expr} {pos : Pos} {a b : Bool} (hx : tv w base n sc ρ x a) (hy : a = false → tv w base n sc ρ y b) : tv w base n sc ρ (.BoolOp .Or [x, y] pos) (a || b) := by
  simp only [ev_iff, evs_iff, tv_iff, tvs_iff, sx_iff, sxs_iff, asg_iff, fe_iff] at *
  exact TV.or hx hy

theorem ev.and {x y : Expr} {pos : Pos} {a b : Bool} (hx : ev w base n sc ρ x (.bool a)) (hy : a = true → ev w base n sc ρ y (.bool b)) : ev w base n sc ρ (.BoolOp .And [x, y] pos) (.bool (a && b)) := by
  simp only [ev_iff, evs_iff, tv_iff, tvs_iff, sx_iff, sxs_iff, asg_iff, fe_iff] at *
  exact EV.and hx hy

theorem ev.or {x y : Expr} {pos : Pos} {a b : Bool} (hx : ev w base n sc ρ x (.bool a)) (hy : a = false → ev w base n sc ρ y (.bool b)) : ev w base n sc ρ (.BoolOp .Or [x, y] pos) (.bool (a || b)) := by
  simp only [ev_iff, evs_iff, tv_iff, tvs_iff, sx_iff, sxs_iff, asg_iff, fe_iff] at *
  exact EV.or hx hy

theorem ev.not {x : Expr} {pos : Pos} {v : PV} {b : Bool} (h : ev w base n sc ρ x v) (hb : PB w base n v b) : ev w base n sc ρ (.UnaryOp .Not x pos) (.bool (!b)) := by
  simp only [ev_iff, evs_iff, tv_iff, tvs_iff, sx_iff, sxs_iff, asg_iff, fe_iff] at *
  exact EV.not h hb

theorem ev.call {x : Str} {p pos : Pos} {es : List Expr} {f : Value} {vs : List PV} {r : PV} (hf : ev w base n sc ρ (.Name x p) (.ref f)) (hk : Calls base f) (ha : evs w base n sc ρ es vs) (hc : CON w base n f vs r)
    (hp : ∀ env, (backTo pos (starEach es env)).any (·.1) = false := by intros; rfl) (hne : ∀ env, ∃ x r, backTo pos (starEach es env) = x :: r := by intros; exact ⟨_, _, rfl⟩) : ev w base n sc ρ (.Call (.Name x p) es [] pos) r := by
  simp only [ev_iff, evs_iff, tv_iff, tvs_iff, sx_iff, sxs_iff, asg_iff, fe_iff] at *
  exact EV.call hf hk ha hc hp hne

theorem ev.methS {o : Expr} {name : Str} {apos pos : Pos} {es : List Expr} {id : String} {x : Str} {r : PV} {vs : List PV} (slot : Slot "str" name id) (hty : typeOf (.builtin id) = pure (.type "method_descriptor"))
    (ho : ev w base n sc ρ o (.str x)) (ha : evs w base n sc ρ es vs) (hc : CON w base n (.builtin id) (.str x :: vs) r)
    (hbase : ∀ env, attributeBase o name env (eval o env) = eval o env := by intros; rfl)
    (hfew : ∀ env, ((backTo pos (starEach es env)).all (fun x => !x.1) && (backToKw pos (keywordEach [] env)).all (fun x => x.1.isSome) && decide (es.length + ([] : List Keyword).length + (if ([] : List Keyword).isEmpty then 0 else 1) < 30)) = true := by intros; rfl)
    (hline : (apos.endLine == pos.line) = true := by rfl)
    (hp : ∀ env, (backTo pos (starEach es env)).any (·.1) = false := by intros; rfl) (hne : ∀ env, ∃ x r, backTo pos (starEach es env) = x :: r := by intros; exact ⟨_, _, rfl⟩) :
    ev w base n sc ρ (.Call (.Attribute o name apos) es [] pos) r := by
  simp only [ev_iff, evs_iff, tv_iff, tvs_iff, sx_iff, sxs_iff, asg_iff, fe_iff] at *
  exact EV.methS slot hty ho ha hc hbase hfew hline hp hne

theorem ev.cutS {value lo hi : Expr} {p pos : Pos} {x : Str} {a b : Int} (hv : ev w base n sc ρ value (.str x)) (hl : ev w base n sc ρ lo (.int a)) (hh : ev w base n sc ρ hi (.int b)) (hz : (cut x a b).length ≤ sizeLine)
    (ht : ∀ o r, letTemporaryGo value o r = pure () := by intro _ _; rfl) : ev w base n sc ρ (.Subscript value (.Slice (some lo) (some hi) Option.none p) pos) (.str (cut x a b)) := by
  simp only [ev_iff, evs_iff, tv_iff, tvs_iff, sx_iff, sxs_iff, asg_iff, fe_iff] at *
  exact EV.cutS hv hl hh hz ht

theorem ev.cutL {value hi : Expr} {p pos : Pos} {l : List PV} {k : Nat} (hv : ev w base n sc ρ value (.list l)) (hh : ev w base n sc ρ hi (.int k)) (hz : l.length ≤ sizeLine)
    (ht : ∀ o r, letTemporaryGo value o r = pure () := by intro _ _; rfl) : ev w base n sc ρ (.Subscript value (.Slice Option.none (some hi) Option.none p) pos) (.list (l.take k)) := by
  simp only [ev_iff, evs_iff, tv_iff, tvs_iff, sx_iff, sxs_iff, asg_iff, fe_iff] at *
  exact EV.cutL hv hh hz ht

theorem ev.revL {value one : Expr} {p pos : Pos} {l : List PV} (hv : ev w base n sc ρ value (.list l)) (hh : ev w base n sc ρ one (.int (-1))) (hz : l.length ≤ sizeLine)
    (ht : ∀ o r, letTemporaryGo value o r = pure () := by intro _ _; rfl) : ev w base n sc ρ (.Subscript value (.Slice Option.none Option.none (some one) p) pos) (.list l.reverse) := by
  simp only [ev_iff, evs_iff, tv_iff, tvs_iff, sx_iff, sxs_iff, asg_iff, fe_iff] at *
  exact EV.revL hv hh hz ht

theorem tvs.nil : tvs w base n sc ρ [] true := by
  simp only [ev_iff, evs_iff, tv_iff, tvs_iff, sx_iff, sxs_iff, asg_iff, fe_iff] at *
  exact TVs.nil 

theorem tvs.one {c : Expr} {b : Bool} (h : tv w base n sc ρ c b) : tvs w base n sc ρ [c] b := by
  simp only [ev_iff, evs_iff, tv_iff, tvs_iff, sx_iff, sxs_iff, asg_iff, fe_iff] at *
  exact TVs.one h

theorem ev.comp {elt iter : Expr} {x : Str} {px pos : Pos} {ifs : List Expr} {scope : Scope} {p : PV} {items : List PV} (sel : PV → Bool) (f : PV → PV) (hok : compOk scope sc ρ x = true)
    (hit : ev w base n sc ρ iter p) (hI : IT w p items)
    (htest : ∀ q ∈ items, tvs w base n (relab scope sc) ((x, q) :: capt (relab scope sc) ρ) ifs (sel q))
    (helt : ∀ q ∈ items, sel q = true → ev w base n (relab scope sc) ((x, q) :: capt (relab scope sc) ρ) elt (f q))
    (hz : items.length ≤ sizeLine) (hs : ∀ env x, foldedSetIterable iter env x = pure x := by intro _ _; rfl) :
    ev w base n sc ρ (.ListComp elt [⟨.Name x px, iter, ifs, 0⟩] scope pos) (.list ((items.filter sel).map f)) := by
  simp only [ev_iff, evs_iff, tv_iff, tvs_iff, sx_iff, sxs_iff, asg_iff, fe_iff] at *
  exact EV.comp sel f hok hit hI htest helt hz hs

theorem sxs.nil : sxs w base n sc ρ ow [] (.next ρ ow) := by
  simp only [ev_iff, evs_iff, tv_iff, tvs_iff, sx_iff, sxs_iff, asg_iff, fe_iff] at *
  exact SXs.nil 

theorem sxs.cons {st : Stmt} {rest : List Stmt} {out : Out} (h : sx w base n sc ρ ow st (.next ρ' ow')) (hr : sxs w base n sc ρ' ow' rest out) : sxs w base n sc ρ ow (st :: rest) out := by
  simp only [ev_iff, evs_iff, tv_iff, tvs_iff, sx_iff, sxs_iff, asg_iff, fe_iff] at *
  exact SXs.cons h hr

theorem sxs.ret {st : Stmt} {rest : List Stmt} {v : PV} (h : sx w base n sc ρ ow st (.ret v)) : sxs w base n sc ρ ow (st :: rest) (.ret v) := by
  simp only [ev_iff, evs_iff, tv_iff, tvs_iff, sx_iff, sxs_iff, asg_iff, fe_iff] at *
  exact SXs.ret h

theorem sxs.brk {st : Stmt} {rest : List Stmt} (h : sx w base n sc ρ ow st (.brk ρ' ow')) : sxs w base n sc ρ ow (st :: rest) (.brk ρ' ow') := by
  simp only [ev_iff, evs_iff, tv_iff, tvs_iff, sx_iff, sxs_iff, asg_iff, fe_iff] at *
  exact SXs.brk h

theorem sx.brk {pos : Pos} : sx w base n sc ρ ow (.Break pos) (.brk ρ ow) := by
  simp only [ev_iff, evs_iff, tv_iff, tvs_iff, sx_iff, sxs_iff, asg_iff, fe_iff] at *
  exact SX.brk 

theorem sx.ret {e : Expr} {pos : Pos} {v : PV} (h : ev w base n sc ρ e v) : sx w base n sc ρ ow (.Return (some e) pos) (.ret v) := by
  simp only [ev_iff, evs_iff, tv_iff, tvs_iff, sx_iff, sxs_iff, asg_iff, fe_iff] at *
  exact SX.ret h

theorem sx.ite {test : Expr} {body orelse : List Stmt} {pos : Pos} {b : Bool} {out : Out} (ht : tv w base n sc ρ test b) (h1 : b = true → sxs w base n sc ρ ow body out) (h2 : b = false → sxs w base n sc ρ ow orelse out) : sx w base n sc ρ ow (.If test body orelse pos) out := by
  simp only [ev_iff, evs_iff, tv_iff, tvs_iff, sx_iff, sxs_iff, asg_iff, fe_iff] at *
  exact SX.ite ht h1 h2

theorem sx.freeze {st : Stmt} {out : Out} {x : Str} {l : List PV} (h : sx w base n sc ((x, .list l) :: ρ) none st out) : sx w base n sc ρ (some (x, l)) st out := by
  simp only [ev_iff, evs_iff, tv_iff, tvs_iff, sx_iff, sxs_iff, asg_iff, fe_iff] at *
  exact SX.freeze h

theorem sx.assign {x : Str} {p pos : Pos} {value : Expr} {v : PV} (h : ev w base n sc ρ value v) (hx : ownName sc ow x = true) (hsw : ∀ env, env.scope = sc → swapsWith value (some (.Name x p)) pos.line env = pure false := by intros; rfl) : sx w base n sc ρ ow (.Assign [.Name x p] value pos) (.next ((x, v) :: ρ) ow) := by
  simp only [ev_iff, evs_iff, tv_iff, tvs_iff, sx_iff, sxs_iff, asg_iff, fe_iff] at *
  exact SX.assign h hx hsw

theorem sx.aug {x : Str} {p pos : Pos} {op : Operator} {value : Expr} {a b v : PV} (ha : ρ.lookup x = some a) (h : ev w base n sc ρ value b) (hp : P2 w base n (inplaceOp op) a b v) (hx : ownName sc ow x = true) : sx w base n sc ρ ow (.AugAssign (.Name x p) op value pos) (.next ((x, v) :: ρ) ow) := by
  simp only [ev_iff, evs_iff, tv_iff, tvs_iff, sx_iff, sxs_iff, asg_iff, fe_iff] at *
  exact SX.aug ha h hp hx

theorem asg.name {x : Str} {pos : Pos} {q : PV} (hx : ownName sc ow x = true) : asg w base n sc ρ ow (.Name x pos) q ((x, q) :: ρ) := by
  simp only [ev_iff, evs_iff, tv_iff, tvs_iff, sx_iff, sxs_iff, asg_iff, fe_iff] at *
  exact AS.name hx

theorem sx.newOwn {x : Str} {p pos lpos : Pos} (hx : (sc.names.lookup x == some .local || sc.names.lookup x == some .cell) = true) : sx w base n sc ρ ow (.Assign [.Name x p] (.List [] lpos) pos) (.next (del x ρ) (some (x, []))) := by
  simp only [ev_iff, evs_iff, tv_iff, tvs_iff, sx_iff, sxs_iff, asg_iff, fe_iff] at *
  exact SX.newOwn hx

theorem sx.append {x : Str} {p1 apos cpos pos : Pos} {e : Expr} {l : List PV} {v : PV} (h : ev w base n sc ρ e v) (hz : l.length ≤ sizeLine)
    (hline : (apos.endLine == cpos.line) = true := by rfl) (htr : ∀ env, backTo cpos (starEach [e] env) = [(false, eval e env)] := by intros; rfl) (hd : (x == ("__debug__" : Str)) = false := by decide) :
    sx w base n sc ρ (some (x, l)) (.Expr (.Call (.Attribute (.Name x p1) "append" apos) [e] [] cpos) pos) (.next ρ (some (x, l ++ [v]))) := by
  simp only [ev_iff, evs_iff, tv_iff, tvs_iff, sx_iff, sxs_iff, asg_iff, fe_iff] at *
  exact SX.append h hz hline htr hd

theorem asg.tup {l : List (Str × Pos)} {k : Nat} {pos : Pos} {vs : List PV} (hl : l.length = vs.length) (hn : l.all (fun p => ownName sc ow p.1) = true) : asg w base n sc ρ ow (.Tuple (nameExprs l) k pos) (.tup vs) (put l vs ρ) := by
  simp only [ev_iff, evs_iff, tv_iff, tvs_iff, sx_iff, sxs_iff, asg_iff, fe_iff] at *
  exact AS.tup hl hn

theorem asg.list {l : List (Str × Pos)} {k : Nat} {pos : Pos} {vs : List PV} (hl : l.length = vs.length) (hn : l.all (fun p => ownName sc ow p.1) = true) : asg w base n sc ρ ow (.Tuple (nameExprs l) k pos) (.list vs) (put l vs ρ) := by
  simp only [ev_iff, evs_iff, tv_iff, tvs_iff, sx_iff, sxs_iff, asg_iff, fe_iff] at *
  exact AS.list hl hn

theorem sx.assignT {es : List Expr} {k : Nat} {tpos pos : Pos} {value : Expr} {v : PV} (h : ev w base n sc ρ value v) (ha : asg w base n sc ρ ow (.Tuple es k tpos) v ρ')
    (hs1 : ∀ env, swapsWithSole [.Tuple es k tpos] value pos.line env = pure false := by intros; rfl) (hs2 : ∀ env, swappedStores [.Tuple es k tpos] value env = pure none := by intros; rfl) : sx w base n sc ρ ow (.Assign [.Tuple es k tpos] value pos) (.next ρ' ow) := by
  simp only [ev_iff, evs_iff, tv_iff, tvs_iff, sx_iff, sxs_iff, asg_iff, fe_iff] at *
  exact SX.assignT h ha hs1 hs2

theorem sx.assignC {elt iter : Expr} {x y : Str} {px py pos spos : Pos} {ifs : List Expr} {scope : Scope} {p : PV} {items : List PV} (sel : PV → Bool) (f : PV → PV) (hok : compOk scope sc ρ x = true)
    (hit : ev w base n sc ρ iter p) (hI : IT w p items)
    (htest : ∀ q ∈ items, tvs w base n (relab scope sc) ((x, q) :: capt (relab scope sc) ρ) ifs (sel q))
    (helt : ∀ q ∈ items, sel q = true → ev w base n (relab scope sc) ((x, q) :: capt (relab scope sc) ρ) elt (f q))
    (hz : items.length ≤ sizeLine) (hy : ownName sc ow y = true) (hsw : ∀ env, env.scope = sc → swapsWith (.ListComp elt [⟨.Name x px, iter, ifs, 0⟩] scope pos) (some (.Name y py)) spos.line env = pure true) (hs : ∀ env x, foldedSetIterable iter env x = pure x := by intro _ _; rfl) :
    sx w base n sc ρ ow (.Assign [.Name y py] (.ListComp elt [⟨.Name x px, iter, ifs, 0⟩] scope pos) spos) (.next ((y, .list ((items.filter sel).map f)) :: ρ) ow) := by
  simp only [ev_iff, evs_iff, tv_iff, tvs_iff, sx_iff, sxs_iff, asg_iff, fe_iff] at *
  exact SX.assignC sel f hok hit hI htest helt hz hy hsw hs

theorem fe.of {p : PV} {items : List PV} {iter target : Expr} (hit : ev w base n sc ρ iter p) (hI : IT w p items) : fe w base n sc ρ iter target items := by
  simp only [ev_iff, evs_iff, tv_iff, tvs_iff, sx_iff, sxs_iff, asg_iff, fe_iff] at *
  exact FE.of hit hI

theorem CON.defs {f : Addr} {st : Stmt} {names : List Str} {args : List PV} {r : PV} (W : Wd GL base) (D : IsDef base f st names) (hok : fnOk (scopeOf st) names = true) (hlen : args.length = names.length)
    (h : sxs w base n (scopeOf st) (names.zip args) none (bodyOf st) (.ret r)) : CON w base (n + 1) (.ref f) args r := by
  simp only [ev_iff, evs_iff, tv_iff, tvs_iff, sx_iff, sxs_iff, asg_iff, fe_iff] at *
  exact CON.def W D hok hlen h

theorem fe.enumT {x : Str} {p pos : Pos} {e : Expr} {l : List PV} {elts : List Expr} {k : Nat} {tpos : Pos} (hf : ev w base n sc ρ (.Name x p) (.ref (.type "enumerate"))) (he : evs w base n sc ρ [e] [.tup l])
    (hp : ∀ env, (backTo pos (starEach [e] env)).any (·.1) = false := by intros; rfl) (hne : ∀ env, ∃ x r, backTo pos (starEach [e] env) = x :: r := by intros; exact ⟨_, _, rfl⟩) :
    fe w base n sc ρ (.Call (.Name x p) [e] [] pos) (.Tuple elts k tpos) (enumL l) := by
  simp only [ev_iff, evs_iff, tv_iff, tvs_iff, sx_iff, sxs_iff, asg_iff, fe_iff] at *
  exact FE.enumT hf he hp hne

/-- a for's run over the items that are left -/
inductive fl (w : World) (base : Heap) (n : Nat) (sc : Scope) (target : Expr) (body orelse : List Stmt) : Rho → Ow → List PV → Out → Prop
  | nil {ρ ow out} : sxs w base n sc ρ ow orelse out → fl w base n sc target body orelse ρ ow [] out
  | next {ρ ow q rest ρ₁ ρ₂ ow₂ out} : asg w base n sc ρ ow target q ρ₁ → sxs w base n sc ρ₁ ow body (.next ρ₂ ow₂) → fl w base n sc target body orelse ρ₂ ow₂ rest out → fl w base n sc target body orelse ρ ow (q :: rest) out
  | brk {ρ ow q rest ρ₁ ρ₂ ow₂} : asg w base n sc ρ ow target q ρ₁ → sxs w base n sc ρ₁ ow body (.brk ρ₂ ow₂) → fl w base n sc target body orelse ρ ow (q :: rest) (.next ρ₂ ow₂)
  | ret {ρ ow q rest ρ₁ v} : asg w base n sc ρ ow target q ρ₁ → sxs w base n sc ρ₁ ow body (.ret v) → fl w base n sc target body orelse ρ ow (q :: rest) (.ret v)
theorem fl.raw {target : Expr} {body orelse : List Stmt} {items : List PV} {out : Out} (h : fl w base n sc target body orelse ρ ow items out) : FL w base n sc target body orelse ρ ow items out := by
  induction h with
  | nil h => exact .nil h.raw
  | next a b _ ih => exact .next a.raw b.raw ih
  | brk a b => exact .brk a.raw b.raw
  | ret a b => exact .ret a.raw b.raw
theorem sx.for {target iter : Expr} {body orelse : List Stmt} {pos : Pos} {items : List PV} {out : Out} (hF : fe w base n sc ρ iter target items) (hL : fl w base n sc target body orelse ρ ow items out)
    (hs : ∀ env x, foldedSetIterable iter env x = pure x := by intro _ _; rfl) : sx w base n sc ρ ow (.For target iter body orelse pos) out := ⟨SX.for hF.raw hL.raw hs⟩
end
end Mine
end
section
open PySem PySem.W PyProof.Rows PySem.Calls PySem.SeqAt
set_option maxRecDepth 100000
namespace Mine

/-- the name holds the def st -/
noncomputable def DefAt (GL : Str → Option Value) (base : Heap) (name : Str) (i : Nat) (names : List Str) : Prop := ∃ f, GL name = some (.ref f) ∧ IsDef base f (stAt i) names
/-- a call by a global name -/
noncomputable def CG (GL : Str → Option Value) (w : World) (base : Heap) (n : Nat) (name : Str) (args : List PV) (r : PV) : Prop := ∃ f, GL name = some f ∧ Calls base f ∧ CON w base n f args r

noncomputable def tablePV : PV := .tup [.tup [.tup [.int 40960, .str "l"], .tup [.int 49152, .str "s"], .tup [.int 32768, .str "-"], .tup [.int 24576, .str "b"], .tup [.int 16384, .str "d"], .tup [.int 8192, .str "c"], .tup [.int 4096, .str "p"]],
  .tup [.tup [.int 256, .str "r"]], .tup [.tup [.int 128, .str "w"]], .tup [.tup [.int 2112, .str "s"], .tup [.int 2048, .str "S"], .tup [.int 64, .str "x"]],
  .tup [.tup [.int 32, .str "r"]], .tup [.tup [.int 16, .str "w"]], .tup [.tup [.int 1032, .str "s"], .tup [.int 1024, .str "S"], .tup [.int 8, .str "x"]],
  .tup [.tup [.int 4, .str "r"]], .tup [.tup [.int 2, .str "w"]], .tup [.tup [.int 513, .str "t"], .tup [.int 512, .str "T"], .tup [.int 1, .str "x"]]]

/-- what the top has laid -/
structure Tops (GL : Str → Option Value) (base : Heap) : Prop where
  W : Wd GL base
  len : GL "len" = some (.builtin "len")
  sum : GL "sum" = some (.builtin "sum")
  range : GL "range" = some (.type "range")
  str : GL "str" = some (.type "str")
  enumerate : GL "enumerate" = some (.type "enumerate")
  table : ∃ v, GL "_filemode_table" = some v ∧ Rep base.get? tablePV v
  ifmt : DefAt GL base "S_IFMT" 16 ["mode"]
  filemode : DefAt GL base "filemode" 37 ["mode"]
  clause : DefAt GL base "_law_clause" 39 ["x"]
  written : DefAt GL base "_law_written" 40 ["clause"]
  worths : DefAt GL base "_law_worths" 42 ["c"]
  seen : DefAt GL base "_law_seen" 43 ["signs", "c"]
  step : DefAt GL base "_law_step" 44 ["mode", "clause"]
  traced : DefAt GL base "_law_traced" 45 ["done", "first", "c", "k"]
  due : DefAt GL base "_law_due" 46 ["done", "first"]
  spot : DefAt GL base "_law_spot" 47 ["line", "column"]
  fault : DefAt GL base "_law_fault" 48 ["clauses"]

section
variable {w : World} {base : Heap} {n : Nat} {sc : Scope} {ρ ρ' : Rho} {ow ow' : Ow} {GL : Str → Option Value}

theorem ev.to {e : Expr} {v v' : PV} (h : ev w base n sc ρ e v) (hv : v = v') : ev w base n sc ρ e v' := hv ▸ h
theorem tv.to {e : Expr} {b b' : Bool} (h : tv w base n sc ρ e b) (hv : b = b') : tv w base n sc ρ e b' := hv ▸ h
theorem Ok.upto {A : Around} {g : Gh} {h : Heap} {m : Nat} (k : Ok base m A g h) (hm : n ≤ m) : Ok base n A g h := k.less hm
theorem CON.up {f : Value} {args : List PV} {r : PV} {m : Nat} (h : CON w base n f args r) (hm : n ≤ m) : CON w base m f args r := fun A g s xs ok rx => h A g s xs (ok.less hm) rx
theorem CG.up {x : Str} {args : List PV} {r : PV} {m : Nat} (h : CG GL w base n x args r) (hm : n ≤ m) : CG GL w base m x args r := let ⟨f, a, b, c⟩ := h; ⟨f, a, b, c.up hm⟩
theorem CG.def {name : Str} {i : Nat} {names : List Str} {args : List PV} {r : PV} (W : Wd GL base) (D : DefAt GL base name i names) (hok : fnOk (scopeOf (stAt i)) names = true) (hlen : args.length = names.length)
    (h : sxs w base n (scopeOf (stAt i)) (names.zip args) none (bodyOf (stAt i)) (.ret r)) : CG GL w base (n + 1) name args r := by
  obtain ⟨f, h1, h2⟩ := D
  exact ⟨.ref f, h1, h2.calls, CON.defs W h2 hok hlen h⟩
theorem ev.cg (W : Wd GL base) {x : Str} {p pos : Pos} {es : List Expr} {vs : List PV} {r : PV} (ha : evs w base n sc ρ es vs) (hc : CG GL w base n x vs r) (hx : sc.names.lookup x = some .globalImplicit := by rfl) (hd : (x == ("__debug__" : Str)) = false := by decide)
    (hp : ∀ env, (backTo pos (starEach es env)).any (·.1) = false := by intros; rfl) (hne : ∀ env, ∃ x r, backTo pos (starEach es env) = x :: r := by intros; exact ⟨_, _, rfl⟩) : ev w base n sc ρ (.Call (.Name x p) es [] pos) r := by
  obtain ⟨f, h1, h2, h3⟩ := hc
  exact ev.call (ev.glob W h1 hx hd) h2 ha h3 hp hne
theorem CG.lenS (T : Tops GL base) {x : Str} (hx : x.length ≤ sizeLine) : CG GL w base n "len" [.str x] (.int x.length) := ⟨_, T.len, .builtin, CON.lenS hx⟩
theorem CG.sum (T : Tops GL base) {ns : List Int} : CG GL w base n "sum" [.list (ns.map .int)] (.int ns.sum) := ⟨_, T.sum, .builtin, CON.sum⟩
theorem CG.range (T : Tops GL base) {k : Nat} : CG GL w base n "range" [.int k] (.rng k) := ⟨_, T.range, .type, CON.range⟩
theorem CG.strI (T : Tops GL base) {a : Int} (ha : a.natAbs.log2 < 1920) : CG GL w base n "str" [.int a] (.str (toString a)) := ⟨_, T.str, .type, CON.strI ha⟩

theorem c_ifmt (T : Tops GL base) (m : Int) : CG GL w base (n + 1) "S_IFMT" [.int m] (.int (Builtin.bitAnd m 61440)) :=
  CG.def T.W T.ifmt (by decide) rfl (sxs.ret (sx.ret (ev.binop (ev.name rfl) ev.int P2.band)))

noncomputable def worthsOf : Nat → List Int
  | 0 => [256, 128, 64, 2048]
  | 1 => [32, 16, 8, 1024]
  | _ => [4, 2, 1, 512]
theorem c_worths (T : Tops GL base) {c : Nat} (hc : c < 3) : CG GL w base (n + 1) "_law_worths" [.int c] (.list ((worthsOf c).map .int)) := by
  refine CG.def T.W T.worths (by decide) rfl (sxs.ret (sx.ret (ev.to (ev.list (evs.cons (ev.binop ev.int (ev.binop ev.int (ev.name rfl) (P2.mul (.inl (by decide)))) (P2.shr (by omega)))
    (evs.cons (ev.binop ev.int (ev.binop ev.int (ev.name rfl) (P2.mul (.inl (by decide)))) (P2.shr (by omega))) (evs.cons (ev.binop ev.int (ev.binop ev.int (ev.name rfl) (P2.mul (.inl (by decide)))) (P2.shr (by omega)))
    (evs.cons (ev.binop ev.int (ev.name rfl) (P2.shr (by omega))) evs.nil))))) ?_)))
  match c, hc with
  | 0, _ => rfl
  | 1, _ => rfl
  | 2, _ => rfl

theorem slen {a b : Str} : (a ++ b).length = a.length + b.length := by
  show (a.cps ++ b.cps).size = _
  rw [Array.size_append]; rfl
noncomputable def spotOf (l c : Int) : Str := (" (at line " : Str) ++ (toString l : Str) ++ (", column " : Str) ++ (toString c : Str) ++ (")" : Str)
theorem c_spot (T : Tops GL base) {l c : Int} (hl : l.natAbs.log2 < 1920) (hc : c.natAbs.log2 < 1920) (hz : (toString l : Str).length ≤ 1000) (hz' : (toString c : Str).length ≤ 1000) :
    CG GL w base (n + 1) "_law_spot" [.int l, .int c] (.str (spotOf l c)) := by
  have e1 : (" (at line " : Str).length = 10 := rfl
  have e2 : (", column " : Str).length = 9 := rfl
  have e3 : (")" : Str).length = 1 := rfl
  have e4 : sizeLine = 16777216 := by decide
  refine CG.def T.W T.spot (by decide) rfl (sxs.ret (sx.ret (ev.binop (ev.binop (ev.binop (ev.binop ev.str (ev.cg T.W (evs.cons (ev.name rfl) evs.nil) (CG.strI T hl)) (P2.adds ?_)) ev.str (P2.adds ?_)) (ev.cg T.W (evs.cons (ev.name rfl) evs.nil) (CG.strI T hc)) (P2.adds ?_)) ev.str (P2.adds ?_))))
  all_goals ((try simp only [slen]); omega)

/-- three signs -/
noncomputable def seenOf (a b d : Nat) : List Bool := [(⟨#[a]⟩ : Str) == "r", (⟨#[b]⟩ : Str) == "w", inS ⟨#[d]⟩ "xst", inS ⟨#[d]⟩ "SsTt"]
theorem c_seen (T : Tops GL base) {x : Str} {c : Nat} {a b d : Nat} (hc : c < 3) (hx : cut x (3 * c + 1) (3 * c + 4) = ⟨#[a, b, d]⟩) : CG GL w base (n + 1) "_law_seen" [.str x, .int c] (.list ((seenOf a b d).map .bool)) := by
  refine CG.def T.W T.seen (by decide) rfl ?_
  refine sxs.cons (sx.assign (ev.cutS (ev.name rfl) (ev.binop (ev.binop ev.int (ev.name rfl) (P2.mul (.inl (by decide)))) ev.int P2.add) (ev.binop (ev.binop ev.int (ev.name rfl) (P2.mul (.inl (by decide)))) ev.int P2.add) (by rw [hx]; show 3 ≤ 16777216; decide)) rfl) ?_
  rw [hx]
  refine sxs.ret (sx.ret (ev.to (ev.list (evs.cons (ev.cmp (ev.index (ev.name rfl) ev.int (IX.str (by decide) (by decide) rfl)) ev.str P2.eqs)
    (evs.cons (ev.cmp (ev.index (ev.name rfl) ev.int (IX.str (by decide) (by decide) rfl)) ev.str P2.eqs)
    (evs.cons (ev.cmp (ev.index (ev.name rfl) ev.int (IX.str (by decide) (by decide) rfl)) ev.str P2.ins)
    (evs.cons (ev.cmp (ev.index (ev.name rfl) ev.int (IX.str (by decide) (by decide) rfl)) ev.str P2.ins) evs.nil))))) rfl))
end
end Mine
end
section
open PySem PySem.W PyProof.Rows PySem.Calls PySem.SeqAt
set_option maxRecDepth 100000
set_option maxHeartbeats 400000
namespace Mine

/-- ρ' says no more than ρ -/
noncomputable def Le (ρ' ρ : Rho) : Prop := ∀ x v, ρ'.lookup x = some v → ρ.lookup x = some v
theorem Le.nil {ρ : Rho} : Le [] ρ := fun x v h => by simp at h
theorem Le.cons {ρ ρ' : Rho} {x : Str} {v : PV} (h : ρ.lookup x = some v) (hr : Le ρ' ρ) : Le ((x, v) :: ρ') ρ := fun y u e => by
  rw [List.lookup_cons] at e
  by_cases z : (y == x) = true
  · rw [z] at e; cases e; rw [eq_of_beq z]; exact h
  · simp only [z] at e; exact hr y u e

section
variable {w : World} {base : Heap} {n : Nat} {sc : Scope} {ρ ρ' ρ₁ ρ₂ : Rho} {ow ow' : Ow} {GL : Str → Option Value}
theorem GS.le {A : Around} {env : Env} {h₀ : Heap} {g₀ g : Gh} {h : Heap} (k : GS base n A env h₀ g₀ g ρ ow h) (l : Le ρ' ρ) : GS base n A env h₀ g₀ g ρ' ow h :=
  ⟨⟨k.good.ok, k.good.envok, fun x v e => k.good.names x v (l x v e)⟩, k.keep, k.grow, k.new, k.loc, k.cel, k.inj, k.own⟩
theorem sxs.le {sts : List Stmt} {out : Out} (l : Le ρ' ρ) (h : sxs w base n sc ρ' ow sts out) : sxs w base n sc ρ ow sts out := ⟨fun A env h₀ g₀ g s hs G Q E hq => h.raw A env h₀ g₀ g s hs (G.le l) Q E hq⟩
theorem sx.le {st : Stmt} {out : Out} (l : Le ρ' ρ) (h : sx w base n sc ρ' ow st out) : sx w base n sc ρ ow st out := ⟨fun A env h₀ g₀ g s hs G Q E hq => h.raw A env h₀ g₀ g s hs (G.le l) Q E hq⟩
theorem sxs.out {sts : List Stmt} (l : Le ρ₂ ρ₁) (h : sxs w base n sc ρ ow sts (.next ρ₁ ow')) : sxs w base n sc ρ ow sts (.next ρ₂ ow') := ⟨fun A env h₀ g₀ g s hs G Q E hq => h.raw A env h₀ g₀ g s hs G Q E fun fl h' tk g' ⟨a, b, c, d⟩ => hq fl h' tk g' ⟨a, b.le l, c, d⟩⟩
theorem sxs.outB {sts : List Stmt} (l : Le ρ₂ ρ₁) (h : sxs w base n sc ρ ow sts (.brk ρ₁ ow')) : sxs w base n sc ρ ow sts (.brk ρ₂ ow') := ⟨fun A env h₀ g₀ g s hs G Q E hq => h.raw A env h₀ g₀ g s hs G Q E fun fl h' tk g' ⟨a, b, c, d⟩ => hq fl h' tk g' ⟨a, b.le l, c, d⟩⟩
theorem sx.out {st : Stmt} (l : Le ρ₂ ρ₁) (h : sx w base n sc ρ ow st (.next ρ₁ ow')) : sx w base n sc ρ ow st (.next ρ₂ ow') := ⟨fun A env h₀ g₀ g s hs G Q E hq => h.raw A env h₀ g₀ g s hs G Q E fun fl h' tk g' ⟨a, b, c, d⟩ => hq fl h' tk g' ⟨a, b.le l, c, d⟩⟩
theorem sx.yes {test : Expr} {body orelse : List Stmt} {pos : Pos} {out : Out} (ht : tv w base n sc ρ test true) (h : sxs w base n sc ρ ow body out) : sx w base n sc ρ ow (.If test body orelse pos) out := sx.ite ht (fun _ => h) (fun z => nomatch z)
theorem sx.no {test : Expr} {body orelse : List Stmt} {pos : Pos} {out : Out} (ht : tv w base n sc ρ test false) (h : sxs w base n sc ρ ow orelse out) : sx w base n sc ρ ow (.If test body orelse pos) out := sx.ite ht (fun z => nomatch z) (fun _ => h)
theorem sxs.one {st : Stmt} {out : Out} (h : sx w base n sc ρ ow st out) : sxs w base n sc ρ ow [st] out := by
  cases out with
  | next ρ' ow' => exact sxs.cons h sxs.nil
  | brk ρ' ow' => exact sxs.brk h
  | ret v => exact sxs.ret h
theorem P2.isub {a b : Int} : P2 w base n (inplaceOp .Sub) (.int a) (.int b) (.int (a - b)) := p2_ii fun A g s t u Q E ok h => isub_int (h _ _)

structure Cl where
  who : Nat
  deed : Nat
  what : Nat
  gap : Nat
noncomputable def gapsL : List Str := ["\n", " ", "\t", "\n\n", "  ", " # o=u\n", "#\n", "\n \n", " #\t'\n", "\t\n", " ", "\n", "#g+o#\n\t", " \n", "+\n", " #\x7f\n"]
noncomputable def gapS (k : Nat) : Str := gapsL.getD k ""
noncomputable def deedC (k : Nat) : Nat := [61, 43, 45].getD k 61
noncomputable def deedS (k : Nat) : Str := ⟨#[deedC k]⟩
noncomputable def Cl.pv (c : Cl) : PV := .tup [.int c.who, .str (deedS c.deed), .int c.what, .str (gapS c.gap)]
structure Cl.Ok (c : Cl) : Prop where
  who1 : 1 ≤ c.who
  who7 : c.who ≤ 7
  deed : c.deed < 3
  what : c.what < 35
  take : c.deed = 2 → c.what < 32
  gap : c.gap < 16
noncomputable def whatOf (x : Int) : Nat := let d := ((x.fdiv 7).fmod 3).toNat; let k := ((x.fdiv 21).fmod 35).toNat; if d = 2 ∧ 31 < k then k - 32 else k
noncomputable def clauseOf (x : Int) : Cl := ⟨(x.fmod 7).toNat + 1, ((x.fdiv 7).fmod 3).toNat, whatOf x, ((x.fdiv 735).fmod 16).toNat⟩
theorem fm {x : Int} {k : Nat} (hk : 0 < k) : ∃ j : Nat, j < k ∧ x.fmod (k : Int) = (j : Int) := by
  have h1 : 0 ≤ x.fmod (k : Int) := Int.fmod_nonneg_of_pos _ (by omega)
  have h2 : x.fmod (k : Int) < k := Int.fmod_lt_of_pos _ (by omega)
  exact ⟨(x.fmod k).toNat, by omega, by omega⟩
theorem clauseOf_ok (x : Int) : (clauseOf x).Ok := by
  obtain ⟨a, ha, e1⟩ := fm (x := x) (k := 7) (by decide)
  obtain ⟨b, hb, e2⟩ := fm (x := x.fdiv 7) (k := 3) (by decide)
  obtain ⟨c, hc, e3⟩ := fm (x := x.fdiv 21) (k := 35) (by decide)
  obtain ⟨d, hd, e4⟩ := fm (x := x.fdiv 735) (k := 16) (by decide)
  norm_cast at e1 e2 e3 e4
  constructor <;> simp only [clauseOf, whatOf, e1, e2, e3, e4, Int.toNat_natCast]
  all_goals (first | omega | (split <;> omega))
theorem deed_at {k : Nat} (h : k < 3) : ("=+-" : Str).cps[k]? = some (deedC k) := by
  match k, h with
  | 0, _ => rfl
  | 1, _ => rfl
  | 2, _ => rfl
theorem at_getD {α : Type} {l : List α} {k : Nat} {d : α} (h : k < l.length) : l[k]? = some (l.getD k d) := by
  rw [List.getD_eq_getElem?_getD, List.getElem?_eq_getElem h]; rfl
noncomputable def gapsP : List PV := [.str "\n", .str " ", .str "\t", .str "\n\n", .str "  ", .str " # o=u\n", .str "#\n", .str "\n \n", .str " #\t'\n", .str "\t\n", .str " ", .str "\n", .str "#g+o#\n\t", .str " \n", .str "+\n", .str " #\x7f\n"]
theorem gap_at {k : Nat} (h : k < 16) : gapsP[k]? = some (.str (gapS k)) := by
  have : gapsP = gapsL.map PV.str := rfl
  rw [this, List.getElem?_map, at_getD (l := gapsL) (d := "") h]; rfl
theorem deed_eq {k : Nat} (h : k < 3) : (deedS k == ("-" : Str)) = (k == 2) := by
  match k, h with
  | 0, _ => rfl
  | 1, _ => rfl
  | 2, _ => rfl

theorem c_clause (T : Tops GL base) (x : Int) : CG GL w base (n + 1) "_law_clause" [.int x] (clauseOf x).pv := by
  obtain ⟨a, ha, e1⟩ := fm (x := x) (k := 7) (by decide)
  obtain ⟨b, hb, e2⟩ := fm (x := x.fdiv 7) (k := 3) (by decide)
  obtain ⟨c, hc, e3⟩ := fm (x := x.fdiv 21) (k := 35) (by decide)
  obtain ⟨d, hd, e4⟩ := fm (x := x.fdiv 735) (k := 16) (by decide)
  norm_cast at e1 e2 e3 e4
  have ew : whatOf x = if b = 2 ∧ 31 < c then c - 32 else c := by simp only [whatOf, e2, e3, Int.toNat_natCast]
  have epv : (clauseOf x).pv = .tup [.int (a + 1 : Nat), .str (deedS b), .int (whatOf x), .str (gapS d)] := by simp only [clauseOf, Cl.pv, e1, e2, e4, Int.toNat_natCast]
  rw [epv]
  refine CG.def T.W T.clause (by decide) rfl ?_
  refine sxs.cons (sx.assign (v := .list gapsP) (ev.to (ev.list (evs.cons ev.str (evs.cons ev.str (evs.cons ev.str (evs.cons ev.str (evs.cons ev.str (evs.cons ev.str (evs.cons ev.str (evs.cons ev.str (evs.cons ev.str (evs.cons ev.str (evs.cons ev.str (evs.cons ev.str (evs.cons ev.str (evs.cons ev.str (evs.cons ev.str (evs.cons ev.str evs.nil))))))))))))))))) rfl) rfl) ?_
  refine sxs.cons (sx.assign (v := .int (a + 1 : Nat)) (ev.to (ev.binop (ev.binop (ev.name rfl) ev.int (P2.mod T.W (by decide))) ev.int P2.add) (by rw [e1]; rfl)) rfl) ?_
  refine sxs.cons (sx.assign (v := .str (deedS b)) (ev.index ev.str (ev.to (v' := .int b) (ev.binop (ev.binop (ev.name rfl) ev.int (P2.fdiv T.W (by decide))) ev.int (P2.mod T.W (by decide))) (by rw [e2])) (IX.str (by omega) (by omega) (by rw [Int.toNat_natCast]; exact deed_at hb))) rfl) ?_
  refine sxs.cons (sx.assign (v := .int c) (ev.to (ev.binop (ev.binop (ev.name rfl) ev.int (P2.fdiv T.W (by decide))) ev.int (P2.mod T.W (by decide))) (by rw [e3])) rfl) ?_
  refine sxs.cons (ow' := none) (ρ' := [("what", .int (whatOf x)), ("deed", .str (deedS b)), ("who", .int (a + 1 : Nat)), ("gaps", .list gapsP), ("x", .int x)]) (sx.ite (b := decide (b = 2 ∧ 31 < c)) (tv.to (tv.and (tv.cmp (ev.name rfl) ev.str P2.eqs PB.bool) (fun _ => tv.cmp (ev.name rfl) ev.int P2.gti PB.bool)) ?_) (fun h => ?_) (fun h => ?_)) ?_
  · rw [deed_eq hb]
    by_cases h2 : b = 2 <;> simp [h2]
    constructor <;> intro h <;> omega
  · have h' : b = 2 ∧ 31 < c := of_decide_eq_true h
    rw [if_pos h'] at ew
    refine sxs.out (ρ₁ := _) ?_ (sxs.one (sx.aug (v := .int (c - 32)) rfl ev.int P2.isub rfl))
    refine Le.cons (by rw [ew]; show some (PV.int ((c : Int) - 32)) = _; congr 2; omega) (Le.cons rfl (Le.cons rfl (Le.cons rfl (Le.cons rfl Le.nil))))
  · have h' : ¬ (b = 2 ∧ 31 < c) := of_decide_eq_false h
    rw [if_neg h'] at ew
    exact sxs.out (Le.cons (by rw [ew]; rfl) (Le.cons rfl (Le.cons rfl (Le.cons rfl (Le.cons rfl Le.nil))))) sxs.nil
  · refine sxs.ret (sx.ret (ev.tup (evs.cons (ev.name rfl) (evs.cons (ev.name rfl) (evs.cons (ev.name rfl) (evs.cons (ev.index (ev.name rfl) (ev.to (v' := .int d) (ev.binop (ev.binop (ev.name rfl) ev.int (P2.fdiv T.W (by decide))) ev.int (P2.mod T.W (by decide))) (by rw [e4])) (IX.list (by omega) (by omega) (by rw [Int.toNat_natCast]; exact gap_at hd))) evs.nil))))))
end
end Mine
end
section
open PySem PySem.W PyProof.Rows PySem.Calls PySem.SeqAt
set_option maxRecDepth 100000
set_option maxHeartbeats 1000000
namespace Mine
section
variable {w : World} {base : Heap} {n : Nat} {sc : Scope} {ρ ρ' ρ₁ ρ₂ : Rho} {ow ow' : Ow} {GL : Str → Option Value}

open Classical in
theorem ev.compA {α : Type} {elt iter : Expr} {x : Str} {px pos : Pos} {ifs : List Expr} {scope : Scope} {p : PV} (l : List α) (c : α → PV) (sel : α → Bool) (f : α → PV) (hok : compOk scope sc ρ x = true)
    (hit : ev w base n sc ρ iter p) (hI : IT w p (l.map c))
    (htest : ∀ a ∈ l, tvs w base n (relab scope sc) ((x, c a) :: capt (relab scope sc) ρ) ifs (sel a))
    (helt : ∀ a ∈ l, sel a = true → ev w base n (relab scope sc) ((x, c a) :: capt (relab scope sc) ρ) elt (f a))
    (hinj : ∀ a ∈ l, ∀ b ∈ l, c a = c b → sel a = sel b ∧ f a = f b)
    (hz : l.length ≤ sizeLine) (hs : ∀ env x, foldedSetIterable iter env x = pure x := by intro _ _; rfl) :
    ev w base n sc ρ (.ListComp elt [⟨.Name x px, iter, ifs, 0⟩] scope pos) (.list ((l.filter sel).map f)) := by
  let S : PV → Bool := fun q => decide (∃ a ∈ l, c a = q ∧ sel a = true)
  let F : PV → PV := fun q => if h : ∃ a, a ∈ l ∧ c a = q then f h.choose else .none
  have hS : ∀ a ∈ l, S (c a) = sel a := fun a ha => by
    show decide _ = _
    cases hb : sel a with
    | true => exact decide_eq_true ⟨a, ha, rfl, hb⟩
    | false =>
      refine decide_eq_false ?_
      rintro ⟨b, hb', e, z⟩
      have := (hinj b hb' a ha e).1
      rw [z, hb] at this; cases this
  have hF : ∀ a ∈ l, F (c a) = f a := fun a ha => by
    have h : ∃ b, b ∈ l ∧ c b = c a := ⟨a, ha, rfl⟩
    show (if h : _ then _ else _) = _
    rw [dif_pos h]
    exact (hinj _ h.choose_spec.1 a ha h.choose_spec.2).2
  have e : ((l.map c).filter S).map F = (l.filter sel).map f := by
    have key : ∀ (m : List α), (∀ a ∈ m, a ∈ l) → ((m.map c).filter S).map F = (m.filter sel).map f := by
      intro m
      induction m with
      | nil => intro _; rfl
      | cons a r ih =>
        intro hm
        have ha := hm a List.mem_cons_self
        have ih' := ih fun b hb => hm b (List.mem_cons_of_mem _ hb)
        rw [List.map_cons, List.filter_cons, List.filter_cons, hS a ha]
        cases sel a with
        | true => simp only [if_true, List.map_cons, hF a ha, ih']
        | false => simpa using ih'
    exact key l fun _ h => h
  rw [← e]
  refine ev.comp S F hok hit hI (fun q hq => ?_) (fun q hq hs => ?_) (by simpa using hz) hs
  · obtain ⟨a, ha, rfl⟩ := List.mem_map.mp hq
    rw [hS a ha]; exact htest a ha
  · obtain ⟨a, ha, rfl⟩ := List.mem_map.mp hq
    rw [hF a ha]; exact helt a ha (by rw [← hS a ha]; exact hs)

theorem ev.compR {elt : Expr} {x : Str} {px pos pr pc : Pos} {ifs : List Expr} {scope : Scope} {k : Nat} {kc : Nat} {kp : Pos} (T : Tops GL base) (sel : Nat → Bool) (f : Nat → PV) (hok : compOk scope sc ρ x = true)
    (htest : ∀ i, i < k → tvs w base n (relab scope sc) ((x, .int i) :: capt (relab scope sc) ρ) ifs (sel i))
    (helt : ∀ i, i < k → sel i = true → ev w base n (relab scope sc) ((x, .int i) :: capt (relab scope sc) ρ) elt (f i))
    (hx : sc.names.lookup (Str.ofString "range") = some .globalImplicit := by rfl)
    (hsm : Builtin.Range.small 0 k 1 = true := by decide) (hz : Builtin.Range.rangeSize 0 k 1 = (k : Int) := by decide) (hk : Nat.ble k 64 = true := by rfl)
    (hs : ∀ env x, foldedSetIterable (.Call (.Name "range" pr) [.Constant (.int k) kc kp] [] pc) env x = pure x := by intro _ _; rfl) :
    ev w base n sc ρ (.ListComp elt [⟨.Name x px, .Call (.Name "range" pr) [.Constant (.int k) kc kp] [] pc, ifs, 0⟩] scope pos) (.list (((List.range k).filter sel).map f)) := by
  refine ev.compA (List.range k) (fun i => PV.int (i : Int)) sel f hok (ev.cg T.W (evs.cons ev.int evs.nil) (CG.range T) hx) (IT.rng hsm hz) (fun i hi => htest i (List.mem_range.mp hi)) (fun i hi => helt i (List.mem_range.mp hi)) (fun a _ b _ e => ?_) ?_ hs
  · have : a = b := by
      have := PV.int.inj e
      omega
    subst this
    exact ⟨rfl, rfl⟩
  · rw [List.length_range]
    exact Nat.le_trans (Nat.le_of_ble_eq_true hk) (by decide)

theorem bandN (a b : Nat) : Builtin.bitAnd (a : Int) (b : Int) = ((a &&& b : Nat) : Int) := by
  unfold Builtin.bitAnd
  simp
theorem shrN (a k : Nat) : (a : Int).fdiv (2 ^ k) = ((a >>> k : Nat) : Int) := by
  rw [Int.fdiv_eq_ediv_of_nonneg _ (by have : (0:Int) < 2 ^ k := Int.pow_pos (by decide); omega), Nat.shiftRight_eq_div_pow]
  norm_cast
theorem bit_test (a c : Nat) : (Builtin.bitAnd ((a : Int).fdiv (2 ^ (c : Int).toNat)) 1 != 0) = a.testBit c := by
  rw [Int.toNat_natCast, shrN]
  have := bandN (a >>> c) 1
  rw [show ((1 : Nat) : Int) = 1 from rfl] at this
  rw [this]
  unfold Nat.testBit
  rw [Nat.and_comm]
  generalize 1 &&& a >>> c = z
  by_cases h : z = 0
  · subst h; rfl
  · have h1 : ((z : Int) != 0) = true := by simpa using (by omega : (z : Int) ≠ 0)
    have h2 : (z != 0) = true := by simpa using h
    rw [h1, h2]
noncomputable def signAt (s : List Nat) (i : Nat) : Str := ⟨#[s.getD i 0]⟩
noncomputable def wordsOf (who : Nat) : Str := if who = 7 then "a" else Txt.join "" (((List.range 3).filter fun c => who.testBit c).map (signAt [117, 103, 111]))
noncomputable def rightsOf (what : Nat) : Str := if 31 < what then signAt [117, 103, 111] (what - 32) else Txt.join "" (((List.range 5).filter fun k => what.testBit (4 - k)).map (signAt [114, 119, 120, 115, 116]))
noncomputable def writtenOf (c : Cl) : Str := wordsOf c.who ++ deedS c.deed ++ rightsOf c.what ++ gapS c.gap
theorem ugo_at {k : Nat} (h : k < 3) : ("ugo" : Str).cps[k]? = some ([117, 103, 111].getD k 0) := by
  match k, h with
  | 0, _ => rfl
  | 1, _ => rfl
  | 2, _ => rfl
theorem rwx_at {k : Nat} (h : k < 5) : ("rwxst" : Str).cps[k]? = some ([114, 119, 120, 115, 116].getD k 0) := by
  match k, h with
  | 0, _ => rfl
  | 1, _ => rfl
  | 2, _ => rfl
  | 3, _ => rfl
  | 4, _ => rfl

theorem bit_test4 (a : Nat) {k : Nat} (hk : k < 5) : (Builtin.bitAnd ((a : Int).fdiv (2 ^ ((4 : Int) - (k : Int)).toNat)) 1 != 0) = a.testBit (4 - k) := by
  have : ((4 : Int) - (k : Int)).toNat = ((4 - k : Nat) : Int).toNat := by omega
  rw [this]; exact bit_test _ _
theorem words_len {k : Nat} (h : k ≤ 7) : (wordsOf k).length ≤ 3 := by
  have : ∀ k, k < 8 → (wordsOf k).length ≤ 3 := by decide +kernel
  exact this k (by omega)
theorem rights_len {k : Nat} (h : k < 35) : (rightsOf k).length ≤ 5 := by
  have : ∀ k, k < 35 → (rightsOf k).length ≤ 5 := by decide +kernel
  exact this k h
theorem gap_len {k : Nat} (h : k < 16) : (gapS k).length ≤ 8 := by
  have : ∀ k, k < 16 → (gapS k).length ≤ 8 := by decide +kernel
  exact this k h
theorem filter_map_str {l : List Nat} {p : Nat → Bool} {f : Nat → Str} : (l.filter p).map (fun i => PV.str (f i)) = ((l.filter p).map f).map PV.str := by rw [List.map_map]; rfl
theorem join_room {k : Nat} {s : List Nat} {p : Nat → Bool} (hk : k ≤ 64) : ((((List.range k).filter p).map (signAt s)).map (·.length)).sum + (((List.range k).filter p).map (signAt s)).length * (Str.ofString "").length ≤ 16777216 := by
  have e0 : (Str.ofString "").length = 0 := rfl
  rw [e0, Nat.mul_zero, Nat.add_zero, List.map_map]
  have : ∀ l : List Nat, (l.map ((fun x : Str => x.length) ∘ signAt s)).sum = l.length := by
    intro l
    induction l with
    | nil => rfl
    | cons a r ih => rw [List.map_cons, List.sum_cons, ih]; show 1 + r.length = r.length + 1; omega
  have e := this ((List.range k).filter p)
  have h := List.length_filter_le p (List.range k)
  rw [List.length_range] at h
  show (((List.range k).filter p).map ((fun x : Str => x.length) ∘ signAt s)).sum ≤ 16777216
  rw [e]; omega

theorem c_written (T : Tops GL base) (c : Cl) (hc : c.Ok) : CG GL w base (n + 1) "_law_written" [c.pv] (.str (writtenOf c)) := by
  have h1 := words_len hc.who7
  have h2 := rights_len hc.what
  have h3 := gap_len hc.gap
  have h4 : (deedS c.deed).length = 1 := rfl
  have h5 : sizeLine = 16777216 := by decide
  refine CG.def T.W T.written (by decide) rfl ?_
  refine sxs.cons (ow' := none) (ρ' := [("gap", .str (gapS c.gap)), ("what", .int c.what), ("deed", .str (deedS c.deed)), ("who", .int c.who), ("clause", c.pv)]) (sx.assignT (ev.name rfl) (asg.tup (l := [("who", _), ("deed", _), ("what", _), ("gap", _)]) rfl rfl)) ?_
  refine sxs.cons (sx.assign (v := .str (Txt.join "" (((List.range 3).filter fun i => c.who.testBit i).map (signAt [117, 103, 111])))) (ev.methS F.slot_str_join F.type_str_join ev.str (evs.cons (ev.to (ev.compR (k := 3) T (fun i => c.who.testBit i) (fun i => .str (signAt [117, 103, 111] i)) rfl (fun i hi => tvs.one (tv.to (tv.val (ev.binop (ev.binop (ev.name rfl) (ev.name rfl) (P2.shr (by omega))) ev.int P2.band) PB.int) (bit_test _ _))) (fun i hi _ => ev.index ev.str (ev.name rfl) (IX.str (by omega) (by omega) (by rw [Int.toNat_natCast]; exact ugo_at hi)))) (by rw [filter_map_str])) evs.nil) (CON.join (join_room (by decide)))) rfl) ?_
  refine sxs.cons (ow' := none) (ρ' := [("words", .str (wordsOf c.who)), ("gap", .str (gapS c.gap)), ("what", .int c.what), ("deed", .str (deedS c.deed)), ("who", .int c.who)]) (sx.ite (b := decide (c.who = 7)) (tv.to (tv.cmp (ev.name rfl) ev.int P2.eqi PB.bool) ?_) (fun h => ?_) (fun h => ?_)) ?_
  · by_cases h : c.who = 7
    · simp [h]
    · simp [h]; omega
  · have h' : c.who = 7 := of_decide_eq_true h
    refine sxs.out ?_ (sxs.one (sx.assign (v := .str "a") ev.str rfl))
    exact Le.cons (by rw [show wordsOf c.who = "a" from if_pos h']; rfl) (Le.cons rfl (Le.cons rfl (Le.cons rfl (Le.cons rfl Le.nil))))
  · have h' : ¬ c.who = 7 := of_decide_eq_false h
    exact sxs.out (Le.cons (by rw [show wordsOf c.who = _ from if_neg h']; rfl) (Le.cons rfl (Le.cons rfl (Le.cons rfl (Le.cons rfl Le.nil))))) sxs.nil
  refine sxs.cons (sx.assign (v := .str (Txt.join "" (((List.range 5).filter fun k => c.what.testBit (4 - k)).map (signAt [114, 119, 120, 115, 116])))) (ev.methS F.slot_str_join F.type_str_join ev.str (evs.cons (ev.to (ev.compR (k := 5) T (fun k => c.what.testBit (4 - k)) (fun i => .str (signAt [114, 119, 120, 115, 116] i)) rfl (fun i hi => tvs.one (tv.to (tv.val (ev.binop (ev.binop (ev.name rfl) (ev.binop ev.int (ev.name rfl) P2.sub) (P2.shr (by omega))) ev.int P2.band) PB.int) (bit_test4 _ hi))) (fun i hi _ => ev.index ev.str (ev.name rfl) (IX.str (by omega) (by omega) (by rw [Int.toNat_natCast]; exact rwx_at hi)))) (by rw [filter_map_str])) evs.nil) (CON.join (join_room (by decide)))) rfl) ?_
  refine sxs.cons (ow' := none) (ρ' := [("rights", .str (rightsOf c.what)), ("words", .str (wordsOf c.who)), ("gap", .str (gapS c.gap)), ("what", .int c.what), ("deed", .str (deedS c.deed)), ("who", .int c.who)]) (sx.ite (b := decide (31 < c.what)) (tv.to (tv.cmp (ev.name rfl) ev.int P2.gti PB.bool) ?_) (fun h => ?_) (fun h => ?_)) ?_
  · by_cases h : 31 < c.what
    · simp [h]; omega
    · simp [h]; omega
  · have h' : 31 < c.what := of_decide_eq_true h
    have hw := hc.what
    refine sxs.out ?_ (sxs.one (sx.assign (v := .str (signAt [117, 103, 111] (c.what - 32))) (ev.index ev.str (ev.to (v' := .int (c.what - 32 : Nat)) (ev.binop (ev.name rfl) ev.int P2.sub) (by congr 1; omega)) (IX.str (by omega) (by omega) (by rw [Int.toNat_natCast]; exact ugo_at (by omega)))) rfl))
    exact Le.cons (by rw [show rightsOf c.what = _ from if_pos h']; rfl) (Le.cons rfl (Le.cons rfl (Le.cons rfl (Le.cons rfl (Le.cons rfl Le.nil)))))
  · have h' : ¬ 31 < c.what := of_decide_eq_false h
    exact sxs.out (Le.cons (by rw [show rightsOf c.what = _ from if_neg h']; rfl) (Le.cons rfl (Le.cons rfl (Le.cons rfl (Le.cons rfl (Le.cons rfl Le.nil)))))) sxs.nil
  refine sxs.ret (sx.ret (ev.binop (ev.binop (ev.binop (ev.name rfl) (ev.name rfl) (P2.adds ?_)) (ev.name rfl) (P2.adds ?_)) (ev.name rfl) (P2.adds ?_)))
  all_goals ((try simp only [slen]); omega)
end
end Mine
end
section
open PySem PySem.W PyProof.Rows PySem.Calls PySem.SeqAt
set_option maxRecDepth 100000
set_option maxHeartbeats 1000000
namespace Mine
section
variable {w : World} {base : Heap} {n : Nat} {sc : Scope} {ρ ρ' ρ₁ ρ₂ : Rho} {ow ow' : Ow} {GL : Str → Option Value}

/-- the first k turns of a for -/
theorem fl.upto {target : Expr} {body orelse : List Stmt} {out : Out} (I : Nat → Rho) (O : Nat → Ow) (l : List PV) : ∀ (k : Nat) (hk : k ≤ l.length)
    (hstep : ∀ i q, i < k → l[i]? = some q → ∃ ρ₁, asg w base n sc (I i) (O i) target q ρ₁ ∧ sxs w base n sc ρ₁ (O i) body (.next (I (i + 1)) (O (i + 1))))
    (hend : fl w base n sc target body orelse (I k) (O k) (l.drop k) out), fl w base n sc target body orelse (I 0) (O 0) l out
  | 0, _, _, hend => hend
  | k + 1, hk, hstep, hend => by
    refine fl.upto I O l k (by omega) (fun i q hi => hstep i q (by omega)) ?_
    have hlt : k < l.length := hk
    rw [List.drop_eq_getElem_cons hlt]
    obtain ⟨ρ₁, h1, h2⟩ := hstep k _ (Nat.lt_succ_self _) (List.getElem?_eq_getElem hlt)
    exact .next h1 h2 hend
theorem fl.run {target : Expr} {body orelse : List Stmt} {out : Out} (I : Nat → Rho) (O : Nat → Ow) (l : List PV)
    (hstep : ∀ i q, l[i]? = some q → ∃ ρ₁, asg w base n sc (I i) (O i) target q ρ₁ ∧ sxs w base n sc ρ₁ (O i) body (.next (I (i + 1)) (O (i + 1))))
    (hend : sxs w base n sc (I l.length) (O l.length) orelse out) : fl w base n sc target body orelse (I 0) (O 0) l out :=
  fl.upto I O l l.length (Nat.le_refl _) (fun i q _ => hstep i q) (by rw [List.drop_length]; exact .nil hend)

theorem asg.le {t : Expr} {q : PV} (l : Le ρ' ρ) (h : asg w base n sc ρ' ow t q ρ₁) : asg w base n sc ρ ow t q ρ₁ := ⟨fun A env h₀ g₀ g s x hs G rx Q E hq => h.raw A env h₀ g₀ g s x hs (G.le l) rx Q E hq⟩
theorem fl.le {target : Expr} {body orelse : List Stmt} {out : Out} {items : List PV} (l : Le ρ' ρ) (h : fl w base n sc target body orelse ρ' ow items out) : fl w base n sc target body orelse ρ ow items out := by
  cases h with
  | nil h => exact .nil (h.le l)
  | next a b c => exact .next (a.le l) b c
  | brk a b => exact .brk (a.le l) b
  | ret a b => exact .ret (a.le l) b

noncomputable abbrev Row := List (Int × Str)
noncomputable def pairPV (p : Int × Str) : PV := .tup [.int p.1, .str p.2]
noncomputable def rowPV (r : Row) : PV := .tup (r.map pairPV)
noncomputable def tab : List Row := [[(40960, "l"), (49152, "s"), (32768, "-"), (24576, "b"), (16384, "d"), (8192, "c"), (4096, "p")],
  [(256, "r")], [(128, "w")], [(2112, "s"), (2048, "S"), (64, "x")], [(32, "r")], [(16, "w")], [(1032, "s"), (1024, "S"), (8, "x")], [(4, "r")], [(2, "w")], [(513, "t"), (512, "T"), (1, "x")]]
theorem tablePV_eq : tablePV = .tup (tab.map rowPV) := rfl
noncomputable def hit (i : Nat) (m b : Int) : Bool := if i = 0 then Builtin.bitAnd m 61440 == b else Builtin.bitAnd m b == b
noncomputable def pick (i : Nat) (m : Int) : Row → Str
  | [] => if i = 0 then "?" else "-"
  | (b, c) :: r => if hit i m b then c else pick i m r

theorem fm_inner (T : Tops GL base) {target : Expr} {body orelse : List Stmt} {i : Nat} {m : Int} {l : List PV} (hl : l.length ≤ 100)
    (ha : ∀ (p : Int × Str), asg w base (n + 1) (scopeOf (stAt 37)) [("index", .int i), ("mode", .int m)] (some ("perm", l)) target (pairPV p) [("char", .str p.2), ("bit", .int p.1), ("index", .int i), ("mode", .int m)])
    (hb : ∀ (p : Int × Str), hit i m p.1 = true → sxs w base (n + 1) (scopeOf (stAt 37)) [("char", .str p.2), ("bit", .int p.1), ("index", .int i), ("mode", .int m)] (some ("perm", l)) body (.brk [("mode", .int m)] (some ("perm", l ++ [.str p.2]))))
    (hc : ∀ (p : Int × Str), hit i m p.1 = false → sxs w base (n + 1) (scopeOf (stAt 37)) [("char", .str p.2), ("bit", .int p.1), ("index", .int i), ("mode", .int m)] (some ("perm", l)) body (.next [("index", .int i), ("mode", .int m)] (some ("perm", l))))
    (he : sxs w base (n + 1) (scopeOf (stAt 37)) [("index", .int i), ("mode", .int m)] (some ("perm", l)) orelse (.next [("mode", .int m)] (some ("perm", l ++ [.str (if i = 0 then "?" else "-")])))) :
    ∀ r : Row, fl w base (n + 1) (scopeOf (stAt 37)) target body orelse [("index", .int i), ("mode", .int m)] (some ("perm", l)) (r.map pairPV) (.next [("mode", .int m)] (some ("perm", l ++ [.str (pick i m r)])))
  | [] => .nil he
  | p :: r => by
    cases h : hit i m p.1 with
    | true =>
      have e : pick i m (p :: r) = p.2 := by show (if _ then _ else _) = _; rw [if_pos h]
      rw [e]
      exact .brk (ha p) (hb p h)
    | false =>
      have e : pick i m (p :: r) = pick i m r := by show (if _ then _ else _) = _; rw [if_neg (by rw [h]; decide)]
      rw [e]
      exact .next (ha p) (hc p h) (fm_inner T hl ha hb hc he r)

noncomputable def fmodeL (m : Int) : List Str := tab.zipIdx.map fun p => pick p.2 m p.1
noncomputable def fmode (m : Int) : Str := Txt.join "" (fmodeL m)

theorem fmodeL_len (m : Int) : (fmodeL m).length = 10 := rfl
theorem pick_len (i : Nat) (m : Int) : ∀ r : Row, (∀ p ∈ r, p.2.length = 1) → (pick i m r).length = 1
  | [], _ => by
    show (if _ then _ else _ : Str).length = 1
    split <;> rfl
  | (b, c) :: r, h => by
    show (if _ then _ else _ : Str).length = 1
    split
    · exact h (b, c) List.mem_cons_self
    · exact pick_len i m r fun p hp => h p (List.mem_cons_of_mem _ hp)

theorem c_filemode (T : Tops GL base) (m : Int) : CG GL w base (n + 2) "filemode" [.int m] (.str (fmode m)) := by
  have hz : sizeLine = 16777216 := by decide
  refine CG.def T.W T.filemode (by decide) rfl ?_
  refine sxs.cons (ρ' := [("mode", .int m)]) (ow' := some ("perm", [])) (sx.newOwn rfl) ?_
  obtain ⟨tbl, ht1, ht2⟩ := T.table
  rw [tablePV_eq] at ht2
  refine sxs.cons (ρ' := [("mode", .int m)]) (ow' := some ("perm", (fmodeL m).map .str)) (sx.for (items := enumL (tab.map rowPV)) (fe.enumT (ev.glob T.W T.enumerate rfl) (evs.cons (ev.globv T.W ht1 rfl ht2) evs.nil)) ?_) ?_
  · refine fl.run (fun _ => [("mode", .int m)]) (fun i => some ("perm", ((fmodeL m).take i).map .str)) (enumL (tab.map rowPV)) (fun i q hq => ?_) sxs.nil
    have hi : i < 10 := by
      obtain ⟨h, _⟩ := List.getElem?_eq_some_iff.mp hq
      exact h
    obtain ⟨row, hrow⟩ : ∃ row, tab[i]? = some row := ⟨tab[i]'hi, List.getElem?_eq_getElem hi⟩
    have eq : q = .tup [.int i, rowPV row] := by
      simp only [enumL, List.getElem?_map, List.getElem?_zipIdx, hrow] at hq
      simpa using hq.symm
    subst eq
    have hnext : (fmodeL m)[i]? = some (pick i m row) := by
      simp [fmodeL, List.getElem?_map, List.getElem?_zipIdx, hrow]
    have htake : ((fmodeL m).take (i + 1)).map PV.str = ((fmodeL m).take i).map PV.str ++ [.str (pick i m row)] := by
      rw [List.take_add_one, hnext, List.map_append]; rfl
    show ∃ ρ₁, _ ∧ sxs _ _ _ _ ρ₁ _ _ (.next _ (some ("perm", ((fmodeL m).take (i + 1)).map PV.str)))
    rw [htake]
    have hl : (((fmodeL m).take i).map PV.str).length ≤ 100 := by
      rw [List.length_map, List.length_take, fmodeL_len]; omega
    refine ⟨[("table", rowPV row), ("index", .int i), ("mode", .int m)], asg.tup (l := [("index", _), ("table", _)]) rfl rfl, sxs.one ?_⟩
    refine sx.for (items := row.map pairPV) (fe.of (ev.name rfl) IT.tup) (fl.le (ρ' := [("index", .int i), ("mode", .int m)]) (Le.cons rfl (Le.cons rfl Le.nil)) (fm_inner T hl (fun p => asg.tup (l := [("bit", _), ("char", _)]) rfl rfl) (fun p hp => ?_) (fun p hp => ?_) ?_ row))
    · unfold hit at hp
      by_cases h0 : i = 0
      · subst h0
        simp only [if_true] at hp
        exact sxs.brk (sx.yes (tv.cmp (ev.name rfl) ev.int P2.eqi PB.bool) (sxs.brk (sx.yes (tv.to (tv.cmp (ev.cg T.W (evs.cons (ev.name rfl) evs.nil) (c_ifmt T m)) (ev.name rfl) P2.eqi PB.bool) hp) (sxs.cons (sx.append (ev.name rfl) (by omega)) (sxs.outB (Le.cons rfl Le.nil) (sxs.brk sx.brk))))))
      · rw [if_neg h0] at hp
        exact sxs.brk (sx.no (tv.to (tv.cmp (ev.name rfl) ev.int P2.eqi PB.bool) (by simpa using h0)) (sxs.brk (sx.yes (tv.to (tv.cmp (ev.binop (ev.name rfl) (ev.name rfl) P2.band) (ev.name rfl) P2.eqi PB.bool) hp) (sxs.cons (sx.append (ev.name rfl) (by omega)) (sxs.outB (Le.cons rfl Le.nil) (sxs.brk sx.brk))))))
    · unfold hit at hp
      by_cases h0 : i = 0
      · subst h0
        simp only [if_true] at hp
        exact sxs.out (Le.cons rfl (Le.cons rfl Le.nil)) (sxs.one (sx.yes (tv.cmp (ev.name rfl) ev.int P2.eqi PB.bool) (sxs.one (sx.no (tv.to (tv.cmp (ev.cg T.W (evs.cons (ev.name rfl) evs.nil) (c_ifmt T m)) (ev.name rfl) P2.eqi PB.bool) hp) sxs.nil))))
      · rw [if_neg h0] at hp
        exact sxs.out (Le.cons rfl (Le.cons rfl Le.nil)) (sxs.one (sx.no (tv.to (tv.cmp (ev.name rfl) ev.int P2.eqi PB.bool) (by simpa using h0)) (sxs.one (sx.no (tv.to (tv.cmp (ev.binop (ev.name rfl) (ev.name rfl) P2.band) (ev.name rfl) P2.eqi PB.bool) hp) sxs.nil))))
    · by_cases h0 : i = 0
      · subst h0
        exact sxs.out (Le.cons rfl Le.nil) (sxs.one (sx.yes (tv.cmp (ev.name rfl) ev.int P2.eqi PB.bool) (sxs.one (sx.append ev.str (by omega)))))
      · rw [if_neg h0]
        exact sxs.out (Le.cons rfl Le.nil) (sxs.one (sx.no (tv.to (tv.cmp (ev.name rfl) ev.int P2.eqi PB.bool) (by simpa using h0)) (sxs.one (sx.append ev.str (by omega)))))
  · refine sxs.ret (sx.freeze (sx.ret (ev.methS F.slot_str_join F.type_str_join ev.str (evs.cons (ev.name rfl) evs.nil) (CON.join ?_))))
    have e0 : (Str.ofString "").length = 0 := rfl
    rw [e0, Nat.mul_zero, Nat.add_zero]
    have : ∀ s ∈ fmodeL m, s.length = 1 := by
      intro s hs
      simp only [fmodeL, List.mem_map] at hs
      obtain ⟨p, hp, rfl⟩ := hs
      refine pick_len _ _ _ ?_
      have hp' : p.1 ∈ tab := by
        obtain ⟨a, b⟩ := p
        exact (List.mem_zipIdx' hp).2 ▸ List.getElem_mem _
      revert hp'
      generalize p.1 = r
      revert r
      decide +kernel
    have key : ∀ l : List Str, (∀ s ∈ l, s.length = 1) → (l.map (·.length)).sum = l.length := by
      intro l
      induction l with
      | nil => intro _; rfl
      | cons a r ih => intro h; rw [List.map_cons, List.sum_cons, ih fun s hs => h s (List.mem_cons_of_mem _ hs), h a List.mem_cons_self]; show 1 + r.length = r.length + 1; omega
    rw [key _ this, fmodeL_len]; decide
end
end Mine
end
section
open PySem PySem.W PyProof.Rows PySem.Calls PySem.SeqAt
set_option maxRecDepth 100000
set_option maxHeartbeats 1000000
namespace Mine
section
variable {w : World} {base : Heap} {n : Nat} {sc : Scope} {ρ ρ' ρ₁ ρ₂ : Rho} {ow ow' : Ow} {GL : Str → Option Value}

theorem ts_len : ∀ k : Nat, k < 400 → (toString (k : Int) : Str).length ≤ 4 := by decide +kernel
theorem lg {k : Nat} (h : k < 400) : (k : Int).natAbs.log2 < 1920 := by
  rw [Int.natAbs_natCast]
  have : k.log2 ≤ k := Nat.log2_le_self k
  omega
/-- a sign's place -/
noncomputable def adv1 (p : Nat × Nat) (c : Nat) : Nat × Nat := if c = 10 then (p.1 + 1, 1) else (p.1, p.2 + 1)
noncomputable def adv (p : Nat × Nat) (l : List Nat) : Nat × Nat := l.foldl adv1 p
/-- what the law says of the first fault -/
noncomputable def faultGo : Nat → Nat → Nat → List Cl → Nat × Str
  | _, _, k, [] => (k, "")
  | l, c, k, a :: r =>
    let c' := c + ((writtenOf a).length - (gapS a.gap).length)
    if a.gap = 14 then (k, ("Expected a blank" : Str) ++ spotOf l c')
    else if a.gap = 15 then (k + 1, ("Found invalid character '\\x7f'" : Str) ++ spotOf l (c' + 2 : Nat))
    else faultGo (adv (l, c') (gapS a.gap).cps.toList).1 (adv (l, c') (gapS a.gap).cps.toList).2 (k + 1) r

theorem written_len (a : Cl) : (writtenOf a).length = (wordsOf a.who).length + (deedS a.deed).length + (rightsOf a.what).length + (gapS a.gap).length := by
  unfold writtenOf; simp only [slen]
theorem gap14 {k : Nat} (h : k < 16) : (gapS k == ("+\n" : Str)) = decide (k = 14) := by
  have : ∀ k, k < 16 → (gapS k == ("+\n" : Str)) = decide (k = 14) := by decide +kernel
  exact this k h
theorem gap15 {k : Nat} (h : k < 16) : (gapS k == (" #\x7f\n" : Str)) = decide (k = 15) := by
  have : ∀ k, k < 16 → (gapS k == (" #\x7f\n" : Str)) = decide (k = 15) := by decide +kernel
  exact this k h
theorem adv_le (p : Nat × Nat) (l : List Nat) : (adv p l).1 ≤ p.1 + l.length ∧ (adv p l).2 ≤ p.2 + l.length + 1 := by
  induction l generalizing p with
  | nil => exact ⟨Nat.le_refl _, Nat.le_succ _⟩
  | cons c r ih =>
    have h := ih (adv1 p c)
    show (adv (adv1 p c) r).1 ≤ _ ∧ (adv (adv1 p c) r).2 ≤ _
    simp only [List.length_cons]
    unfold adv1 at h ⊢
    split at h <;> rename_i hc <;> simp only [hc, if_true, if_false] at h ⊢ <;> omega

theorem nl_eq (c : Nat) : ((⟨#[c]⟩ : Str) == ("\n" : Str)) = decide (c = 10) := by
  by_cases h : c = 10
  · subst h; rfl
  · have : ¬ ((⟨#[c]⟩ : Str) = ⟨#[10]⟩) := fun e => h (by injection e with e; simpa using e)
    rw [decide_eq_false h]
    exact beq_eq_false_iff_ne.mpr this

/-- the signs of a gap -/
theorem gap_loop (T : Tops GL base) {target : Expr} {body : List Stmt} (g : Str) (l c k : Nat)
    (ha : ∀ p q (ch : Nat), asg w base n (scopeOf (stAt 48)) [("column", .int (q : Nat)), ("line", .int (p : Nat)), ("count", .int k)] none target (.str ⟨#[ch]⟩) [("sign", .str ⟨#[ch]⟩), ("column", .int (q : Nat)), ("line", .int (p : Nat)), ("count", .int k)])
    (hb : ∀ p q (ch : Nat), sxs w base n (scopeOf (stAt 48)) [("sign", .str ⟨#[ch]⟩), ("column", .int (q : Nat)), ("line", .int (p : Nat)), ("count", .int k)] none body (.next [("column", .int ((adv1 (p, q) ch).2 : Nat)), ("line", .int ((adv1 (p, q) ch).1 : Nat)), ("count", .int k)] none)) :
    fl w base n (scopeOf (stAt 48)) target body [] [("column", .int c), ("line", .int l), ("count", .int k)] none (g.cps.toList.map fun c => .str ⟨#[c]⟩)
      (.next [("column", .int ((adv (l, c) g.cps.toList).2 : Nat)), ("line", .int ((adv (l, c) g.cps.toList).1 : Nat)), ("count", .int k)] none) := by
  generalize g.cps.toList = s
  induction s generalizing l c with
  | nil => exact .nil sxs.nil
  | cons ch r ih =>
    exact .next (ha l c ch) (hb l c ch) (ih (adv1 (l, c) ch).1 (adv1 (l, c) ch).2)

theorem fault_loop (T : Tops GL base) {target : Expr} {body orelse : List Stmt} 
    (ha : ∀ (l c k : Nat) (a : Cl), asg w base n (scopeOf (stAt 48)) [("column", .int c), ("line", .int l), ("count", .int k)] none target a.pv [("clause", a.pv), ("column", .int c), ("line", .int l), ("count", .int k)])
    (hb : ∀ (l c k : Nat) (a : Cl), a.Ok → l < 300 → c < 300 → let c' := c + ((writtenOf a).length - (gapS a.gap).length)
      sxs w base n (scopeOf (stAt 48)) [("clause", a.pv), ("column", .int c), ("line", .int l), ("count", .int k)] none body
        (if a.gap = 14 then .ret (.tup [.int k, .str (("Expected a blank" : Str) ++ spotOf l c')]) else if a.gap = 15 then .ret (.tup [.int (k + 1 : Nat), .str (("Found invalid character '\\x7f'" : Str) ++ spotOf l (c' + 2 : Nat))])
         else .next [("column", .int ((adv (l, c') (gapS a.gap).cps.toList).2 : Nat)), ("line", .int ((adv (l, c') (gapS a.gap).cps.toList).1 : Nat)), ("count", .int (k + 1 : Nat))] none))
    :
    ∀ (cs : List Cl) (l c k : Nat), (∀ a ∈ cs, a.Ok) → l + 8 * cs.length < 300 → c + 20 * cs.length < 300 →
      (∃ l' c', (faultGo l c k cs) = (k + cs.length, ("" : Str)) ∧ fl w base n (scopeOf (stAt 48)) target body [] [("column", .int c), ("line", .int l), ("count", .int k)] none (cs.map Cl.pv) (.next [("column", .int (l' : Nat)), ("line", .int (c' : Nat)), ("count", .int (k + cs.length : Nat))] none)) ∨
      fl w base n (scopeOf (stAt 48)) target body [] [("column", .int c), ("line", .int l), ("count", .int k)] none (cs.map Cl.pv) (.ret (.tup [.int ((faultGo l c k cs).1 : Nat), .str (faultGo l c k cs).2])) := by
  intro cs
  induction cs with
  | nil => exact fun l c k _ _ _ => .inl ⟨c, l, rfl, .nil sxs.nil⟩
  | cons a r ih =>
    intro l c k hok hl hc
    have ok := hok a List.mem_cons_self
    have hw := words_len ok.who7
    have hr := rights_len ok.what
    have hg := gap_len ok.gap
    have hwl := written_len a
    have hd : (deedS a.deed).length = 1 := rfl
    simp only [List.length_cons] at hl hc
    have step := hb l c k a ok (by omega) (by omega)
    simp only at step
    have e : faultGo l c k (a :: r) = if a.gap = 14 then (k, ("Expected a blank" : Str) ++ spotOf l (c + ((writtenOf a).length - (gapS a.gap).length) : Nat)) else if a.gap = 15 then (k + 1, ("Found invalid character '\\x7f'" : Str) ++ spotOf l (c + ((writtenOf a).length - (gapS a.gap).length) + 2 : Nat)) else
        faultGo (adv (l, c + ((writtenOf a).length - (gapS a.gap).length)) (gapS a.gap).cps.toList).1 (adv (l, c + ((writtenOf a).length - (gapS a.gap).length)) (gapS a.gap).cps.toList).2 (k + 1) r := rfl
    rw [e]
    by_cases h14 : a.gap = 14
    · rw [if_pos h14] at step ⊢
      exact .inr (.ret (ha l c k a) step)
    · rw [if_neg h14] at step ⊢
      by_cases h15 : a.gap = 15
      · rw [if_pos h15] at step ⊢
        exact .inr (.ret (ha l c k a) step)
      · rw [if_neg h15] at step ⊢
        have hadv := adv_le (l, c + ((writtenOf a).length - (gapS a.gap).length)) (gapS a.gap).cps.toList
        have hgl : (gapS a.gap).cps.toList.length = (gapS a.gap).length := by rw [Array.length_toList]; rfl
        simp only [hgl] at hadv
        rcases ih (adv (l, c + ((writtenOf a).length - (gapS a.gap).length)) (gapS a.gap).cps.toList).1 (adv (l, c + ((writtenOf a).length - (gapS a.gap).length)) (gapS a.gap).cps.toList).2 (k + 1) (fun b hb => hok b (List.mem_cons_of_mem _ hb)) (by omega) (by omega) with ⟨l', c', h1, h2⟩ | h
        · refine .inl ⟨l', c', by rw [h1]; simp only [List.length_cons]; congr 1; omega, ?_⟩
          have := fl.next (ha l c k a) step h2
          simp only [List.length_cons]
          rw [show k + (r.length + 1) = k + 1 + r.length by omega]
          exact this
        · exact .inr (.next (ha l c k a) step h)
theorem P2.to {f : Value → Value → Sem Value} {a b r r' : PV} (h : P2 w base n f a b r) (e : r = r') : P2 w base n f a b r' := e ▸ h
theorem sxs.rets {st : Stmt} {rest : List Stmt} {out : Out} {v : PV} (h : sx w base n sc ρ ow st (.ret v)) (e : out = .ret v) : sxs w base n sc ρ ow (st :: rest) out := e ▸ sxs.ret h

theorem fault_all (T : Tops GL base) {target iter : Expr} {body rest : List Stmt} {pos : Pos} {ρ₀ : Rho} (cs : List Cl) (hok : ∀ a ∈ cs, a.Ok) (hlen : cs.length ≤ 12)
    (hF : fe w base n (scopeOf (stAt 48)) ρ₀ iter target (cs.map Cl.pv)) (hle : Le [("column", .int (1 : Nat)), ("line", .int (1 : Nat)), ("count", .int (0 : Nat))] ρ₀)
    (ha : ∀ (l c k : Nat) (a : Cl), asg w base n (scopeOf (stAt 48)) [("column", .int c), ("line", .int l), ("count", .int k)] none target a.pv [("clause", a.pv), ("column", .int c), ("line", .int l), ("count", .int k)])
    (hb : ∀ (l c k : Nat) (a : Cl), a.Ok → l < 300 → c < 300 → let c' := c + ((writtenOf a).length - (gapS a.gap).length)
      sxs w base n (scopeOf (stAt 48)) [("clause", a.pv), ("column", .int c), ("line", .int l), ("count", .int k)] none body
        (if a.gap = 14 then .ret (.tup [.int k, .str (("Expected a blank" : Str) ++ spotOf l c')]) else if a.gap = 15 then .ret (.tup [.int (k + 1 : Nat), .str (("Found invalid character '\\x7f'" : Str) ++ spotOf l (c' + 2 : Nat))])
         else .next [("column", .int ((adv (l, c') (gapS a.gap).cps.toList).2 : Nat)), ("line", .int ((adv (l, c') (gapS a.gap).cps.toList).1 : Nat)), ("count", .int (k + 1 : Nat))] none))
    (hrest : ∀ (l' c' k : Nat), sxs w base n (scopeOf (stAt 48)) [("column", .int (l' : Nat)), ("line", .int (c' : Nat)), ("count", .int k)] none rest (.ret (.tup [.int k, .str ""])))
    (hs : ∀ env x, foldedSetIterable iter env x = pure x := by intro _ _; rfl) :
    sxs w base n (scopeOf (stAt 48)) ρ₀ none (.For target iter body [] pos :: rest) (.ret (.tup [.int ((faultGo 1 1 0 cs).1 : Nat), .str (faultGo 1 1 0 cs).2])) := by
  rcases fault_loop (orelse := []) T ha hb cs 1 1 0 hok (by omega) (by omega) with ⟨l', c', e1, e2⟩ | h
  · rw [e1]
    exact sxs.cons (sx.for hF (fl.le hle e2) hs) (hrest l' c' _)
  · exact sxs.ret (sx.for hF (fl.le hle h) hs)

theorem c_fault (T : Tops GL base) (cs : List Cl) (hok : ∀ a ∈ cs, a.Ok) (hlen : cs.length ≤ 12) : CG GL w base (n + 2) "_law_fault" [.list (cs.map Cl.pv)] (.tup [.int ((faultGo 1 1 0 cs).1 : Nat), .str (faultGo 1 1 0 cs).2]) := by
  have hz : sizeLine = 16777216 := by decide
  refine CG.def T.W T.fault (by decide) rfl ?_
  refine sxs.cons (sx.assign ev.int rfl) (sxs.cons (sx.assign ev.int rfl) (sxs.cons (sx.assign ev.int rfl) ?_))
  refine sxs.le (ρ' := [("clauses", .list (cs.map Cl.pv)), ("column", .int (1 : Nat)), ("line", .int (1 : Nat)), ("count", .int (0 : Nat))]) (Le.cons rfl (Le.cons rfl (Le.cons rfl (Le.cons rfl Le.nil)))) ?_
  refine fault_all T cs hok hlen (fe.of (ev.name rfl) IT.list) (Le.cons rfl (Le.cons rfl (Le.cons rfl Le.nil))) (fun l c k a => asg.name rfl) ?_ (fun l' c' k => sxs.ret (sx.ret (ev.tup (evs.cons (ev.name rfl) (evs.cons ev.str evs.nil)))))
  · intro l c k a ok hl hc
    have hw := words_len ok.who7
    have hr := rights_len ok.what
    have hg := gap_len ok.gap
    have hwl := written_len a
    have hd : (deedS a.deed).length = 1 := rfl
    have hsp : ∀ l c : Nat, l < 400 → c < 400 → (spotOf l c).length ≤ 40 := fun l c hl hc => by
      unfold spotOf
      have e1 : (" (at line " : Str).length = 10 := rfl
      have e2 : (", column " : Str).length = 9 := rfl
      have e3 : (")" : Str).length = 1 := rfl
      have := ts_len l hl
      have := ts_len c hc
      simp only [slen]; omega
    show sxs _ _ _ _ _ _ _ (if a.gap = 14 then _ else _)
    generalize hc' : c + ((writtenOf a).length - (gapS a.gap).length) = c'
    have hb' : c' < 350 := by omega
    refine sxs.cons (sx.assign (v := .str (gapS a.gap)) (ev.index (ev.name rfl) ev.int (IX.tup (by decide) (by decide) rfl)) rfl) ?_
    refine sxs.cons (sx.aug (v := .int (c' : Nat)) rfl (ev.binop (ev.cg T.W (evs.cons (ev.cg T.W (evs.cons (ev.name rfl) evs.nil) (c_written T a ok)) evs.nil) (CG.lenS T (by omega))) (ev.cg T.W (evs.cons (ev.name rfl) evs.nil) (CG.lenS T (by omega))) P2.sub) (P2.to P2.iadd (by congr 1; omega)) rfl) ?_
    by_cases h14 : a.gap = 14
    · rw [if_pos h14]
      have := hsp l c' (by omega) (by omega)
      refine sxs.ret (sx.yes (tv.to (tv.cmp (ev.name rfl) ev.str P2.eqs PB.bool) (by rw [gap14 ok.gap]; exact decide_eq_true h14)) (sxs.ret (sx.ret (ev.tup (evs.cons (ev.name rfl) (evs.cons (ev.binop ev.str (ev.cg T.W (evs.cons (ev.name rfl) (evs.cons (ev.name rfl) evs.nil)) (c_spot T (lg (by omega)) (lg (by omega)) (Nat.le_trans (ts_len _ (by omega)) (by decide)) (Nat.le_trans (ts_len _ (by omega)) (by decide)))) (P2.adds ?_)) evs.nil))))))
      have e1 : (Str.ofString "Expected a blank").length = 16 := rfl
      omega
    · rw [if_neg h14]
      refine sxs.cons (sx.no (tv.to (tv.cmp (ev.name rfl) ev.str P2.eqs PB.bool) (by rw [gap14 ok.gap]; exact decide_eq_false h14)) sxs.nil) ?_
      refine sxs.cons (sx.aug (v := .int (k + 1 : Nat)) rfl ev.int (P2.to P2.iadd (by congr 1)) rfl) ?_
      by_cases h15 : a.gap = 15
      · rw [if_pos h15]
        have := hsp l (c' + 2) (by omega) (by omega)
        refine sxs.ret (sx.yes (tv.to (tv.cmp (ev.name rfl) ev.str P2.eqs PB.bool) (by rw [gap15 ok.gap]; exact decide_eq_true h15)) (sxs.ret (sx.ret (ev.tup (evs.cons (ev.name rfl) (evs.cons (ev.binop ev.str (ev.cg T.W (evs.cons (ev.name rfl) (evs.cons (ev.to (v' := .int (c' + 2 : Nat)) (ev.binop (ev.name rfl) ev.int P2.add) (by congr 1)) evs.nil)) (c_spot T (lg (by omega)) (lg (by omega)) (Nat.le_trans (ts_len _ (by omega)) (by decide)) (Nat.le_trans (ts_len _ (by omega)) (by decide)))) (P2.adds ?_)) evs.nil))))))
        have e1 : (Str.ofString "Found invalid character '\\x7f'").length = 30 := rfl
        omega
      · rw [if_neg h15]
        refine sxs.cons (sx.no (tv.to (tv.cmp (ev.name rfl) ev.str P2.eqs PB.bool) (by rw [gap15 ok.gap]; exact decide_eq_false h15)) sxs.nil) ?_
        refine sxs.one (sx.for (fe.of (ev.name rfl) IT.str) (fl.le (Le.cons rfl (Le.cons rfl (Le.cons rfl Le.nil))) (gap_loop T (gapS a.gap) l c' (k + 1) (fun p q ch => asg.name rfl) (fun p q ch => ?_))))
        refine sxs.cons (sx.aug (v := .int (q + 1 : Nat)) rfl ev.int (P2.to P2.iadd (by congr 1)) rfl) ?_
        by_cases hn : ch = 10
        · have e : adv1 (p, q) ch = (p + 1, 1) := if_pos hn
          rw [e]
          exact sxs.out (Le.cons rfl (Le.cons rfl (Le.cons rfl Le.nil))) (sxs.one (sx.yes (tv.to (tv.cmp (ev.name rfl) ev.str P2.eqs PB.bool) (by rw [nl_eq]; exact decide_eq_true hn)) (sxs.cons (sx.aug (v := .int (p + 1 : Nat)) rfl ev.int (P2.to P2.iadd (by congr 1)) rfl) (sxs.one (sx.assign ev.int rfl)))))
        · have e : adv1 (p, q) ch = (p, q + 1) := if_neg hn
          rw [e]
          exact sxs.out (Le.cons rfl (Le.cons rfl (Le.cons rfl Le.nil))) (sxs.one (sx.no (tv.to (tv.cmp (ev.name rfl) ev.str P2.eqs PB.bool) (by rw [nl_eq]; exact decide_eq_false hn)) sxs.nil))
end
end Mine
end
section
open PySem PySem.W PyProof.Rows PySem.Calls PySem.SeqAt
set_option maxRecDepth 100000
set_option maxHeartbeats 1000000
namespace Mine
section
variable {w : World} {base : Heap} {n : Nat} {sc : Scope} {ρ ρ' ρ₁ ρ₂ : Rho} {ow ow' : Ow} {GL : Str → Option Value}

open Classical in
theorem compSF {α : Type} (l : List α) (c : α → PV) (sel : α → Bool) (f : α → PV) (hinj : ∀ a ∈ l, ∀ b ∈ l, c a = c b → sel a = sel b ∧ f a = f b) :
    ∃ (S : PV → Bool) (F : PV → PV), (∀ a ∈ l, S (c a) = sel a) ∧ (∀ a ∈ l, F (c a) = f a) ∧ ((l.map c).filter S).map F = (l.filter sel).map f := by
  let S : PV → Bool := fun q => decide (∃ a ∈ l, c a = q ∧ sel a = true)
  let F : PV → PV := fun q => if h : ∃ a, a ∈ l ∧ c a = q then f h.choose else .none
  have hS : ∀ a ∈ l, S (c a) = sel a := fun a ha => by
    show decide _ = _
    cases hb : sel a with
    | true => exact decide_eq_true ⟨a, ha, rfl, hb⟩
    | false =>
      refine decide_eq_false ?_
      rintro ⟨b, hb', e, z⟩
      have := (hinj b hb' a ha e).1
      rw [z, hb] at this; cases this
  have hF : ∀ a ∈ l, F (c a) = f a := fun a ha => by
    have h : ∃ b, b ∈ l ∧ c b = c a := ⟨a, ha, rfl⟩
    show (if h : _ then _ else _) = _
    rw [dif_pos h]
    exact (hinj _ h.choose_spec.1 a ha h.choose_spec.2).2
  refine ⟨S, F, hS, hF, ?_⟩
  have key : ∀ (m : List α), (∀ a ∈ m, a ∈ l) → ((m.map c).filter S).map F = (m.filter sel).map f := by
    intro m
    induction m with
    | nil => intro _; rfl
    | cons a r ih =>
      intro hm
      have ha := hm a List.mem_cons_self
      have ih' := ih fun b hb => hm b (List.mem_cons_of_mem _ hb)
      rw [List.map_cons, List.filter_cons, List.filter_cons, hS a ha]
      cases sel a with
      | true => simp only [if_true, List.map_cons, hF a ha, ih']
      | false => simpa using ih'
  exact key l fun _ h => h

theorem sx.assignA {α : Type} {elt iter : Expr} {x y : Str} {px py pos spos : Pos} {ifs : List Expr} {scope : Scope} {p : PV} (l : List α) (c : α → PV) (sel : α → Bool) (f : α → PV) (hok : compOk scope sc ρ x = true)
    (hit : ev w base n sc ρ iter p) (hI : IT w p (l.map c))
    (htest : ∀ a ∈ l, tvs w base n (relab scope sc) ((x, c a) :: capt (relab scope sc) ρ) ifs (sel a))
    (helt : ∀ a ∈ l, sel a = true → ev w base n (relab scope sc) ((x, c a) :: capt (relab scope sc) ρ) elt (f a))
    (hinj : ∀ a ∈ l, ∀ b ∈ l, c a = c b → sel a = sel b ∧ f a = f b)
    (hz : l.length ≤ sizeLine) (hy : ownName sc ow y = true) (hsw : ∀ env, env.scope = sc → swapsWith (.ListComp elt [⟨.Name x px, iter, ifs, 0⟩] scope pos) (some (.Name y py)) spos.line env = pure true)
    (hs : ∀ env x, foldedSetIterable iter env x = pure x := by intro _ _; rfl) :
    sx w base n sc ρ ow (.Assign [.Name y py] (.ListComp elt [⟨.Name x px, iter, ifs, 0⟩] scope pos) spos) (.next ((y, .list ((l.filter sel).map f)) :: ρ) ow) := by
  obtain ⟨S, F, hS, hF, e⟩ := compSF l c sel f hinj
  rw [← e]
  refine sx.assignC S F hok hit hI (fun q hq => ?_) (fun q hq hs => ?_) (by simpa using hz) hy hsw hs
  · obtain ⟨a, ha, rfl⟩ := List.mem_map.mp hq
    rw [hS a ha]; exact htest a ha
  · obtain ⟨a, ha, rfl⟩ := List.mem_map.mp hq
    rw [hF a ha]; exact helt a ha (by rw [← hS a ha]; exact hs)

theorem sx.assignR {elt : Expr} {x y : Str} {px py pos spos pr pc : Pos} {ifs : List Expr} {scope : Scope} {k kc : Nat} {kp : Pos} (T : Tops GL base) (sel : Nat → Bool) (f : Nat → PV) (hok : compOk scope sc ρ x = true)
    (htest : ∀ i, i < k → tvs w base n (relab scope sc) ((x, .int i) :: capt (relab scope sc) ρ) ifs (sel i))
    (helt : ∀ i, i < k → sel i = true → ev w base n (relab scope sc) ((x, .int i) :: capt (relab scope sc) ρ) elt (f i)) (hy : ownName sc ow y = true)
    (hsw : ∀ env, env.scope = sc → swapsWith (.ListComp elt [⟨.Name x px, .Call (.Name "range" pr) [.Constant (.int k) kc kp] [] pc, ifs, 0⟩] scope pos) (some (.Name y py)) spos.line env = pure true)
    (hx : sc.names.lookup (Str.ofString "range") = some .globalImplicit := by rfl)
    (hsm : Builtin.Range.small 0 k 1 = true := by decide) (hz : Builtin.Range.rangeSize 0 k 1 = (k : Int) := by decide) (hk : Nat.ble k 64 = true := by rfl)
    (hs : ∀ env x, foldedSetIterable (.Call (.Name "range" pr) [.Constant (.int k) kc kp] [] pc) env x = pure x := by intro _ _; rfl) :
    sx w base n sc ρ ow (.Assign [.Name y py] (.ListComp elt [⟨.Name x px, .Call (.Name "range" pr) [.Constant (.int k) kc kp] [] pc, ifs, 0⟩] scope pos) spos) (.next ((y, .list (((List.range k).filter sel).map f)) :: ρ) ow) := by
  refine sx.assignA (List.range k) (fun i => PV.int (i : Int)) sel f hok (ev.cg T.W (evs.cons ev.int evs.nil) (CG.range T) hx) (IT.rng hsm hz) (fun i hi => htest i (List.mem_range.mp hi)) (fun i hi => helt i (List.mem_range.mp hi)) (fun a _ b _ e => ?_) ?_ hy hsw hs
  · have : a = b := by
      have := PV.int.inj e
      omega
    subst this
    exact ⟨rfl, rfl⟩
  · rw [List.length_range]
    exact Nat.le_trans (Nat.le_of_ble_eq_true hk) (by decide)

/-- the mask of a right -/
noncomputable def maskOf (k d : Nat) : Nat := [16, 8, 4, [2, 2, 1].getD d 0].getD k 0
/-- where a clause leads from one class: none: the right is set -/
noncomputable def led1 (a : Cl) (k d : Nat) : Option (List Nat) :=
  if a.who.testBit d = false then some [d]
  else if 31 < a.what then some (if a.deed = 1 then [a.what - 32, d] else [a.what - 32])
  else if a.what &&& maskOf k d ≠ 0 then (if a.deed = 2 then some [] else none)
  else if a.deed = 0 then some [] else some [d]
noncomputable def ledGo (a : Cl) (k : Nat) : List Nat → List Nat → Option (List Nat)
  | led, [] => some led
  | led, d :: r => match led1 a k d with
    | none => none
    | some m => ledGo a k (led ++ m) r
noncomputable def askedOf (led : List Nat) : List Nat := (List.range 3).filter fun d => led.any (· == d)
/-- done backward -/
noncomputable def tracedGo (first k : Nat) : List Nat → List Cl → Nat
  | asked, [] => if asked.any (fun d => (Builtin.bitAnd first ((worthsOf d).getD k 0)) != 0) then 1 else 0
  | asked, a :: r => match ledGo a k [] asked with
    | none => 1
    | some led => tracedGo first k (askedOf led) r
end
end Mine
end
section
open PySem PySem.W PyProof.Rows PySem.Calls PySem.SeqAt
set_option maxRecDepth 100000
set_option maxHeartbeats 1000000
namespace Mine
section
variable {w : World} {base : Heap} {n : Nat} {sc : Scope} {ρ ρ' ρ₁ ρ₂ : Rho} {ow ow' : Ow} {GL : Str → Option Value}

noncomputable def nlist (l : List Nat) : List PV := l.map fun (d : Nat) => PV.int (d : Int)
theorem nl_app (l m : List Nat) : nlist (l ++ m) = nlist l ++ nlist m := List.map_append
noncomputable def outL (ρ : Rho) : Option (List Nat) → Out
  | none => .ret (.int 1)
  | some l => .next ρ (some ("led", nlist l))
theorem led_loop {target : Expr} {body : List Stmt} (a : Cl) (k : Nat) (ρ₀ : Rho)
    (ha : ∀ (d : Nat) (led : List Nat), asg w base n sc ρ₀ (some ("led", nlist led)) target (.int d) (("d", .int d) :: ρ₀))
    (hb : ∀ (d : Nat) (led : List Nat), d < 3 → led.length ≤ 20 → sxs w base n sc (("d", .int d) :: ρ₀) (some ("led", nlist led)) body (outL ρ₀ ((led1 a k d).map fun m => led ++ m))) :
    ∀ (ds led : List Nat), (∀ d ∈ ds, d < 3) → led.length + 2 * ds.length ≤ 20 → fl w base n sc target body [] ρ₀ (some ("led", nlist led)) (nlist ds) (outL ρ₀ (ledGo a k led ds))
  | [], led, _, _ => .nil sxs.nil
  | d :: r, led, hd, hl => by
    have step := hb d led (hd d List.mem_cons_self) (by omega)
    simp only [List.length_cons] at hl
    show fl w base n sc target body [] ρ₀ _ (nlist (d :: r)) (outL ρ₀ (match led1 a k d with | none => none | some m => ledGo a k (led ++ m) r))
    cases h : led1 a k d with
    | none =>
      rw [h] at step
      exact .ret (ha d led) step
    | some m =>
      rw [h] at step
      have hm : m.length ≤ 2 := by
        unfold led1 at h
        repeat' (split at h)
        all_goals (first | (cases h; done) | (cases h; simp; done) | (cases h; split <;> simp))
      exact .next (ha d led) step (led_loop a k ρ₀ ha hb r (led ++ m) (fun x hx => hd x (List.mem_cons_of_mem _ hx)) (by simp only [List.length_append]; omega))

theorem mask_at {k d : Nat} (hk : k < 4) : ([.int 16, .int 8, .int 4, .int ((([2, 2, 1] : List Nat).getD d 0 : Nat) : Int)] : List PV)[k]? = some (.int (maskOf k d : Nat)) := by
  match k, hk with
  | 0, _ => rfl
  | 1, _ => rfl
  | 2, _ => rfl
  | 3, _ => rfl
theorem two_at {d : Nat} (hd : d < 3) : ([.int 2, .int 2, .int 1] : List PV)[d]? = some (.int ((([2, 2, 1] : List Nat).getD d 0 : Nat) : Int)) := by
  match d, hd with
  | 0, _ => rfl
  | 1, _ => rfl
  | 2, _ => rfl
theorem deed_is {k : Nat} (h : k < 3) : (deedS k == ("+" : Str)) = decide (k = 1) ∧ (deedS k != ("-" : Str)) = !decide (k = 2) ∧ (deedS k != ("=" : Str)) = !decide (k = 0) ∧ (deedS k == ("=" : Str)) = decide (k = 0) := by
  match k, h with
  | 0, _ => exact ⟨rfl, rfl, rfl, rfl⟩
  | 1, _ => exact ⟨rfl, rfl, rfl, rfl⟩
  | 2, _ => exact ⟨rfl, rfl, rfl, rfl⟩

theorem tr_loop {target : Expr} {body : List Stmt} (first k : Nat)
    (ha : ∀ (a : Cl) (asked : List Nat), asg w base n sc [("asked", .list (nlist asked)), ("first", .int first), ("k", .int k)] none target a.pv (("gap", .str (gapS a.gap)) :: ("what", .int a.what) :: ("deed", .str (deedS a.deed)) :: ("who", .int a.who) :: [("asked", .list (nlist asked)), ("first", .int first), ("k", .int k)]))
    (hb : ∀ (a : Cl) (asked : List Nat), a.Ok → (∀ d ∈ asked, d < 3) → asked.length ≤ 3 → sxs w base n sc (("gap", .str (gapS a.gap)) :: ("what", .int a.what) :: ("deed", .str (deedS a.deed)) :: ("who", .int a.who) :: [("asked", .list (nlist asked)), ("first", .int first), ("k", .int k)]) none body
      (match ledGo a k [] asked with | none => .ret (.int 1) | some led => .next [("asked", .list (nlist (askedOf led))), ("first", .int first), ("k", .int k)] none))
    :
    ∀ (cs : List Cl) (asked : List Nat), (∀ a ∈ cs, a.Ok) → (∀ d ∈ asked, d < 3) → asked.length ≤ 3 →
      (tracedGo first k asked cs = 1 ∧ fl w base n sc target body [] [("asked", .list (nlist asked)), ("first", .int first), ("k", .int k)] none (cs.map Cl.pv) (.ret (.int 1))) ∨
      ∃ asked', (∀ d ∈ asked', d < 3) ∧ tracedGo first k asked cs = tracedGo first k asked' [] ∧ fl w base n sc target body [] [("asked", .list (nlist asked)), ("first", .int first), ("k", .int k)] none (cs.map Cl.pv) (.next [("asked", .list (nlist asked')), ("first", .int first), ("k", .int k)] none)
  | [], asked, _, hd, _ => .inr ⟨asked, hd, rfl, .nil sxs.nil⟩
  | a :: r', asked, hok, hd, hl => by
    have step := hb a asked (hok a List.mem_cons_self) hd hl
    have e : tracedGo first k asked (a :: r') = match ledGo a k [] asked with | none => 1 | some led => tracedGo first k (askedOf led) r' := rfl
    rw [e]
    cases h : ledGo a k [] asked with
    | none =>
      rw [h] at step
      exact .inl ⟨rfl, .ret (ha a asked) step⟩
    | some led =>
      rw [h] at step
      have hd' : ∀ d ∈ askedOf led, d < 3 := fun d hd => List.mem_range.mp (List.mem_filter.mp hd).1
      have hl' : (askedOf led).length ≤ 3 := by
        have := List.length_filter_le (fun d => led.any (· == d)) (List.range 3)
        rw [List.length_range] at this
        exact this
      rcases tr_loop first k ha hb r' (askedOf led) (fun b hb => hok b (List.mem_cons_of_mem _ hb)) hd' hl' with ⟨h1, h2⟩ | ⟨x, h1, h2, h3⟩
      · exact .inl ⟨h1, .next (ha a asked) step h2⟩
      · exact .inr ⟨x, h1, h2, .next (ha a asked) step h3⟩
theorem tr_all {target iter : Expr} {body rest : List Stmt} {pos : Pos} {ρ₀ : Rho} (first k : Nat) (cs : List Cl) (asked : List Nat) (hok : ∀ a ∈ cs, a.Ok) (hd : ∀ d ∈ asked, d < 3) (hl : asked.length ≤ 3)
    (hF : fe w base n sc ρ₀ iter target (cs.map Cl.pv)) (hle : Le [("asked", .list (nlist asked)), ("first", .int first), ("k", .int k)] ρ₀)
    (ha : ∀ (a : Cl) (asked : List Nat), asg w base n sc [("asked", .list (nlist asked)), ("first", .int first), ("k", .int k)] none target a.pv (("gap", .str (gapS a.gap)) :: ("what", .int a.what) :: ("deed", .str (deedS a.deed)) :: ("who", .int a.who) :: [("asked", .list (nlist asked)), ("first", .int first), ("k", .int k)]))
    (hb : ∀ (a : Cl) (asked : List Nat), a.Ok → (∀ d ∈ asked, d < 3) → asked.length ≤ 3 → sxs w base n sc (("gap", .str (gapS a.gap)) :: ("what", .int a.what) :: ("deed", .str (deedS a.deed)) :: ("who", .int a.who) :: [("asked", .list (nlist asked)), ("first", .int first), ("k", .int k)]) none body
      (match ledGo a k [] asked with | none => .ret (.int 1) | some led => .next [("asked", .list (nlist (askedOf led))), ("first", .int first), ("k", .int k)] none))
    (hrest : ∀ asked', (∀ d ∈ asked', d < 3) → sxs w base n sc [("asked", .list (nlist asked')), ("first", .int first), ("k", .int k)] none rest (.ret (.int (tracedGo first k asked' [] : Nat))))
    (hs : ∀ env x, foldedSetIterable iter env x = pure x := by intro _ _; rfl) :
    sxs w base n sc ρ₀ none (.For target iter body [] pos :: rest) (.ret (.int (tracedGo first k asked cs : Nat))) := by
  rcases tr_loop first k ha hb cs asked hok hd hl with ⟨h1, h2⟩ | ⟨x, h1, h2, h3⟩
  · rw [h1]
    exact sxs.ret (sx.for hF (fl.le hle h2) hs)
  · rw [h2]
    exact sxs.cons (sx.for hF (fl.le hle h3) hs) (hrest x h1)
theorem end_loop {target : Expr} {body : List Stmt} (first k : Nat) (ρ₀ : Rho) (p : Nat → Bool)
    (ha : ∀ (d : Nat), asg w base n sc ρ₀ none target (.int d) (("d", .int d) :: ρ₀))
    (hb : ∀ (d : Nat), d < 3 → sxs w base n sc (("d", .int d) :: ρ₀) none body (if p d then .ret (.int 1) else .next ρ₀ none)) :
    ∀ (ds : List Nat), (∀ d ∈ ds, d < 3) → fl w base n sc target body [] ρ₀ none (nlist ds) (if ds.any p then .ret (.int 1) else .next ρ₀ none)
  | [], _ => .nil sxs.nil
  | d :: r, hd => by
    have step := hb d (hd d List.mem_cons_self)
    rw [List.any_cons]
    cases h : p d with
    | true => rw [h] at step; exact .ret (ha d) step
    | false =>
      rw [h] at step
      simp only [Bool.false_or]
      exact .next (ha d) step (end_loop first k ρ₀ p ha hb r fun x hx => hd x (List.mem_cons_of_mem _ hx))
theorem end_all {target iter : Expr} {body rest : List Stmt} {pos : Pos} (first k : Nat) (ρ₀ : Rho) (ds : List Nat) (hd : ∀ d ∈ ds, d < 3) (hF : fe w base n sc ρ₀ iter target (nlist ds))
    (ha : ∀ (d : Nat), asg w base n sc ρ₀ none target (.int d) (("d", .int d) :: ρ₀))
    (hb : ∀ (d : Nat), d < 3 → sxs w base n sc (("d", .int d) :: ρ₀) none body (if Builtin.bitAnd first ((worthsOf d).getD k 0) != 0 then .ret (.int 1) else .next ρ₀ none))
    (hrest : sxs w base n sc ρ₀ none rest (.ret (.int 0))) (hs : ∀ env x, foldedSetIterable iter env x = pure x := by intro _ _; rfl) :
    sxs w base n sc ρ₀ none (.For target iter body [] pos :: rest) (.ret (.int (tracedGo first k ds [] : Nat))) := by
  have h := end_loop first k ρ₀ (fun d => Builtin.bitAnd first ((worthsOf d).getD k 0) != 0) ha hb ds hd
  have e : tracedGo first k ds [] = if ds.any (fun d => (Builtin.bitAnd first ((worthsOf d).getD k 0)) != 0) then 1 else 0 := rfl
  rw [e]
  cases hb : ds.any (fun d => (Builtin.bitAnd first ((worthsOf d).getD k 0)) != 0) with
  | true => rw [hb] at h; exact sxs.ret (sx.for hF h hs)
  | false => rw [hb] at h; exact sxs.cons (sx.for hF h hs) hrest
theorem worth_at {d k : Nat} (hd : d < 3) (hk : k < 4) : ((worthsOf d).map PV.int)[k]? = some (.int ((worthsOf d).getD k 0)) := by
  have : (worthsOf d).length = 4 := by
    match d, hd with
    | 0, _ => rfl
    | 1, _ => rfl
    | 2, _ => rfl
  rw [List.getElem?_map, at_getD (l := worthsOf d) (d := 0) (by omega)]; rfl

theorem led_all {target iter : Expr} {body rest : List Stmt} {pos : Pos} {ρ₁ : Rho} (a : Cl) (k : Nat) (ρ₀ : Rho) (out : List Nat → Out) (ds : List Nat) (hd : ∀ d ∈ ds, d < 3) (hl : ds.length ≤ 3) (hF : fe w base n sc ρ₁ iter target (nlist ds)) (hle : Le ρ₀ ρ₁)
    (ha : ∀ (d : Nat) (led : List Nat), asg w base n sc ρ₀ (some ("led", nlist led)) target (.int d) (("d", .int d) :: ρ₀))
    (hb : ∀ (d : Nat) (led : List Nat), d < 3 → led.length ≤ 20 → sxs w base n sc (("d", .int d) :: ρ₀) (some ("led", nlist led)) body (outL ρ₀ ((led1 a k d).map fun m => led ++ m)))
    (hrest : ∀ led, sxs w base n sc ρ₀ (some ("led", nlist led)) rest (out led)) (hs : ∀ env x, foldedSetIterable iter env x = pure x := by intro _ _; rfl) :
    sxs w base n sc ρ₁ (some ("led", [])) (.For target iter body [] pos :: rest) (match ledGo a k [] ds with | none => .ret (.int 1) | some led => out led) := by
  have h := led_loop a k ρ₀ ha hb ds [] hd (by simp only [List.length_nil]; omega)
  cases e : ledGo a k [] ds with
  | none => rw [e] at h; exact sxs.ret (sx.for hF (fl.le hle h) hs)
  | some led => rw [e] at h; exact sxs.cons (sx.for hF (fl.le hle h) hs) (hrest led)
theorem any_int (led : List Nat) (d : Nat) : ((led.map fun (x : Nat) => (x : Int)).any (· == (d : Int))) = led.any (· == d) := by
  rw [List.any_map]
  congr 1
  funext x
  show ((x : Int) == (d : Int)) = (x == d)
  by_cases h : x = d
  · simp [h]
  · have : (x : Int) ≠ (d : Int) := by omega
    rw [beq_eq_false_iff_ne.mpr h, beq_eq_false_iff_ne.mpr this]

theorem c_traced (T : Tops GL base) (cs : List Cl) (first c k : Nat) (hok : ∀ a ∈ cs, a.Ok) (hlen : cs.length ≤ 12) (hc : c < 3) (hk : k < 4) :
    CG GL w base (n + 2) "_law_traced" [.list (cs.map Cl.pv), .int first, .int c, .int k] (.int (tracedGo first k [c] cs.reverse : Nat)) := by
  have hz : sizeLine = 16777216 := by decide
  refine CG.def T.W T.traced (by decide) rfl ?_
  refine sxs.cons (sx.assign (v := .list (nlist [c])) (ev.list (evs.cons (ev.name rfl) evs.nil)) rfl) ?_
  refine tr_all first k cs.reverse [c] (fun a ha => hok a (List.mem_reverse.mp ha)) (by simpa using hc) (by simp) (by rw [List.map_reverse]; exact fe.of (ev.revL (ev.name rfl) (ev.unary ev.int P1.neg) (by rw [List.length_map]; omega)) IT.list) (Le.cons rfl (Le.cons rfl (Le.cons rfl Le.nil))) (fun a asked => asg.tup (l := [("who", _), ("deed", _), ("what", _), ("gap", _)]) rfl rfl) (fun a asked ok hd hl => ?_) (fun asked' hd => ?_)
  · refine sxs.cons (ρ' := ("gap", .str (gapS a.gap)) :: ("what", .int a.what) :: ("deed", .str (deedS a.deed)) :: ("who", .int a.who) :: [("asked", .list (nlist asked)), ("first", .int first), ("k", .int k)]) (ow' := some ("led", [])) (sx.newOwn rfl) ?_
    refine led_all a k [("what", .int a.what), ("deed", .str (deedS a.deed)), ("who", .int a.who), ("first", .int first), ("k", .int k)] (fun led => .next [("asked", .list (nlist (askedOf led))), ("first", .int first), ("k", .int k)] none) asked hd hl (fe.of (ev.name rfl) IT.list) (Le.cons rfl (Le.cons rfl (Le.cons rfl (Le.cons rfl (Le.cons rfl Le.nil))))) (fun d led => asg.name rfl) (fun d led hd hl => ?_) (fun led => ?_)
    · have hnl : (nlist led).length ≤ sizeLine := by rw [nlist, List.length_map]; omega
      have hnl1 : ∀ x : PV, (nlist led ++ [x]).length ≤ sizeLine := fun x => by rw [List.length_append, nlist, List.length_map]; show _ + 1 ≤ _; omega
      obtain ⟨d1, d2, d3, _⟩ := deed_is ok.deed
      have hw := ok.what
      by_cases hbit : a.who.testBit d = false
      · have e : led1 a k d = some [d] := if_pos hbit
        rw [e]
        show sxs _ _ _ _ _ _ _ (.next _ (some ("led", nlist (led ++ [d]))))
        rw [nl_app]
        exact sxs.out (Le.cons rfl (Le.cons rfl (Le.cons rfl (Le.cons rfl (Le.cons rfl Le.nil))))) (sxs.one (sx.yes (tv.to (tv.not (tv.to (tv.val (ev.binop (ev.binop (ev.name rfl) (ev.name rfl) (P2.shr (by omega))) ev.int P2.band) PB.int) (bit_test _ _))) (by rw [hbit]; rfl)) (sxs.one (sx.append (ev.name rfl) hnl))))
      · have hbit' : a.who.testBit d = true := by simpa using hbit
        have t1 : ∀ {b : Bool}, b = a.who.testBit d → (!b) = false := fun h => by rw [h, hbit']; rfl
        by_cases hw31 : 31 < a.what
        · have e : led1 a k d = some (if a.deed = 1 then [a.what - 32, d] else [a.what - 32]) := by unfold led1; rw [if_neg hbit, if_pos hw31]
          rw [e]
          have h32 : ((a.what : Int) - 32) = ((a.what - 32 : Nat) : Int) := by omega
          by_cases h1 : a.deed = 1
          · rw [if_pos h1]
            show sxs _ _ _ _ _ _ _ (.next _ (some ("led", nlist (led ++ ([a.what - 32] ++ [d])))))
            rw [← List.append_assoc, nl_app, nl_app]
            exact sxs.out (Le.cons rfl (Le.cons rfl (Le.cons rfl (Le.cons rfl (Le.cons rfl Le.nil))))) (sxs.one (sx.no (tv.to (tv.not (tv.to (tv.val (ev.binop (ev.binop (ev.name rfl) (ev.name rfl) (P2.shr (by omega))) ev.int P2.band) PB.int) (bit_test _ _))) (by rw [hbit']; rfl)) (sxs.one (sx.yes (tv.to (tv.cmp (ev.name rfl) ev.int P2.gti PB.bool) (decide_eq_true (by omega))) (sxs.cons (sx.append (ev.to (ev.binop (ev.name rfl) ev.int P2.sub) (by rw [h32])) hnl) (sxs.one (sx.yes (tv.to (tv.cmp (ev.name rfl) ev.str P2.eqs PB.bool) (by rw [d1]; exact decide_eq_true h1)) (sxs.one (sx.append (ev.name rfl) (hnl1 _))))))))))
          · rw [if_neg h1]
            show sxs _ _ _ _ _ _ _ (.next _ (some ("led", nlist (led ++ [a.what - 32]))))
            rw [nl_app]
            exact sxs.out (Le.cons rfl (Le.cons rfl (Le.cons rfl (Le.cons rfl (Le.cons rfl Le.nil))))) (sxs.one (sx.no (tv.to (tv.not (tv.to (tv.val (ev.binop (ev.binop (ev.name rfl) (ev.name rfl) (P2.shr (by omega))) ev.int P2.band) PB.int) (bit_test _ _))) (by rw [hbit']; rfl)) (sxs.one (sx.yes (tv.to (tv.cmp (ev.name rfl) ev.int P2.gti PB.bool) (decide_eq_true (by omega))) (sxs.cons (sx.append (ev.to (ev.binop (ev.name rfl) ev.int P2.sub) (by rw [h32])) hnl) (sxs.one (sx.no (tv.to (tv.cmp (ev.name rfl) ev.str P2.eqs PB.bool) (by rw [d1]; exact decide_eq_false h1)) sxs.nil)))))))
        · have tm : ∀ b : Bool, (Builtin.bitAnd (a.what : Int) (maskOf k d : Nat) != 0) = b → (a.what &&& maskOf k d ≠ 0 ↔ b = true) := fun b h => by
            rw [bandN] at h
            rw [← h]
            generalize a.what &&& maskOf k d = z
            by_cases hz : z = 0
            · subst hz; simp
            · simp [hz]
          cases hm : (Builtin.bitAnd (a.what : Int) (maskOf k d : Nat) != 0) with
          | true =>
            have e : led1 a k d = if a.deed = 2 then some [] else none := by unfold led1; rw [if_neg hbit, if_neg hw31, if_pos ((tm _ hm).mpr rfl)]
            rw [e]
            by_cases h2 : a.deed = 2
            · rw [if_pos h2]
              show sxs _ _ _ _ _ _ _ (.next _ (some ("led", nlist (led ++ []))))
              rw [List.append_nil]
              exact sxs.out (Le.cons rfl (Le.cons rfl (Le.cons rfl (Le.cons rfl (Le.cons rfl Le.nil))))) (sxs.one (sx.no (tv.to (tv.not (tv.to (tv.val (ev.binop (ev.binop (ev.name rfl) (ev.name rfl) (P2.shr (by omega))) ev.int P2.band) PB.int) (bit_test _ _))) (by rw [hbit']; rfl)) (sxs.one (sx.no (tv.to (tv.cmp (ev.name rfl) ev.int P2.gti PB.bool) (decide_eq_false (by omega))) (sxs.one (sx.yes (tv.to (tv.val (ev.binop (ev.name rfl) (ev.index (ev.list (evs.cons ev.int (evs.cons ev.int (evs.cons ev.int (evs.cons (ev.index (ev.list (evs.cons ev.int (evs.cons ev.int (evs.cons ev.int evs.nil)))) (ev.name rfl) (IX.list (by omega) (by omega) (by rw [Int.toNat_natCast]; exact two_at hd))) evs.nil))))) (ev.name rfl) (IX.list (by omega) (by omega) (by rw [Int.toNat_natCast]; exact mask_at hk))) P2.band) PB.int) hm) (sxs.one (sx.no (tv.to (tv.cmp (ev.name rfl) ev.str P2.nes PB.bool) (by rw [d2, h2]; rfl)) sxs.nil))))))))
            · rw [if_neg h2]
              exact sxs.ret (sx.no (tv.to (tv.not (tv.to (tv.val (ev.binop (ev.binop (ev.name rfl) (ev.name rfl) (P2.shr (by omega))) ev.int P2.band) PB.int) (bit_test _ _))) (by rw [hbit']; rfl)) (sxs.ret (sx.no (tv.to (tv.cmp (ev.name rfl) ev.int P2.gti PB.bool) (decide_eq_false (by omega))) (sxs.ret (sx.yes (tv.to (tv.val (ev.binop (ev.name rfl) (ev.index (ev.list (evs.cons ev.int (evs.cons ev.int (evs.cons ev.int (evs.cons (ev.index (ev.list (evs.cons ev.int (evs.cons ev.int (evs.cons ev.int evs.nil)))) (ev.name rfl) (IX.list (by omega) (by omega) (by rw [Int.toNat_natCast]; exact two_at hd))) evs.nil))))) (ev.name rfl) (IX.list (by omega) (by omega) (by rw [Int.toNat_natCast]; exact mask_at hk))) P2.band) PB.int) hm) (sxs.ret (sx.yes (tv.to (tv.cmp (ev.name rfl) ev.str P2.nes PB.bool) (by rw [d2, decide_eq_false h2]; rfl)) (sxs.ret (sx.ret ev.int)))))))))
          | false =>
            have e : led1 a k d = if a.deed = 0 then some [] else some [d] := by unfold led1; rw [if_neg hbit, if_neg hw31, if_neg (fun h => by have := (tm _ hm).mp h; cases this)]
            rw [e]
            by_cases h0 : a.deed = 0
            · rw [if_pos h0]
              show sxs _ _ _ _ _ _ _ (.next _ (some ("led", nlist (led ++ []))))
              rw [List.append_nil]
              exact sxs.out (Le.cons rfl (Le.cons rfl (Le.cons rfl (Le.cons rfl (Le.cons rfl Le.nil))))) (sxs.one (sx.no (tv.to (tv.not (tv.to (tv.val (ev.binop (ev.binop (ev.name rfl) (ev.name rfl) (P2.shr (by omega))) ev.int P2.band) PB.int) (bit_test _ _))) (by rw [hbit']; rfl)) (sxs.one (sx.no (tv.to (tv.cmp (ev.name rfl) ev.int P2.gti PB.bool) (decide_eq_false (by omega))) (sxs.one (sx.no (tv.to (tv.val (ev.binop (ev.name rfl) (ev.index (ev.list (evs.cons ev.int (evs.cons ev.int (evs.cons ev.int (evs.cons (ev.index (ev.list (evs.cons ev.int (evs.cons ev.int (evs.cons ev.int evs.nil)))) (ev.name rfl) (IX.list (by omega) (by omega) (by rw [Int.toNat_natCast]; exact two_at hd))) evs.nil))))) (ev.name rfl) (IX.list (by omega) (by omega) (by rw [Int.toNat_natCast]; exact mask_at hk))) P2.band) PB.int) hm) (sxs.one (sx.no (tv.to (tv.cmp (ev.name rfl) ev.str P2.nes PB.bool) (by rw [d3, h0]; rfl)) sxs.nil))))))))
            · rw [if_neg h0]
              show sxs _ _ _ _ _ _ _ (.next _ (some ("led", nlist (led ++ [d]))))
              rw [nl_app]
              exact sxs.out (Le.cons rfl (Le.cons rfl (Le.cons rfl (Le.cons rfl (Le.cons rfl Le.nil))))) (sxs.one (sx.no (tv.to (tv.not (tv.to (tv.val (ev.binop (ev.binop (ev.name rfl) (ev.name rfl) (P2.shr (by omega))) ev.int P2.band) PB.int) (bit_test _ _))) (by rw [hbit']; rfl)) (sxs.one (sx.no (tv.to (tv.cmp (ev.name rfl) ev.int P2.gti PB.bool) (decide_eq_false (by omega))) (sxs.one (sx.no (tv.to (tv.val (ev.binop (ev.name rfl) (ev.index (ev.list (evs.cons ev.int (evs.cons ev.int (evs.cons ev.int (evs.cons (ev.index (ev.list (evs.cons ev.int (evs.cons ev.int (evs.cons ev.int evs.nil)))) (ev.name rfl) (IX.list (by omega) (by omega) (by rw [Int.toNat_natCast]; exact two_at hd))) evs.nil))))) (ev.name rfl) (IX.list (by omega) (by omega) (by rw [Int.toNat_natCast]; exact mask_at hk))) P2.band) PB.int) hm) (sxs.one (sx.yes (tv.to (tv.cmp (ev.name rfl) ev.str P2.nes PB.bool) (by rw [d3, decide_eq_false h0]; rfl)) (sxs.one (sx.append (ev.name rfl) hnl))))))))))
    · refine sxs.out (Le.cons rfl (Le.cons rfl (Le.cons rfl Le.nil))) (sxs.one (sx.freeze (sx.assignR (k := 3) T (fun d => led.any (· == d)) (fun d => .int d) rfl (fun i hi => tvs.one (tv.to (tv.cmp (ev.name rfl) (ev.to (v' := .list ((led.map fun (x : Nat) => (x : Int)).map .int)) (ev.name rfl) (by rw [List.map_map]; rfl)) P2.inLI PB.bool) (any_int _ _))) (fun i hi _ => ev.name rfl) rfl ?_)))
      intro env h
      unfold swapsWith
      simp only [Env.blockKind, Env.kindOf, h]
      rfl
  · refine end_all first k _ asked' hd (fe.of (ev.name rfl) IT.list) (fun d => asg.name rfl) (fun d hd' => ?_) (sxs.ret (sx.ret ev.int))
    cases h : (Builtin.bitAnd first ((worthsOf d).getD k 0) != 0) with
    | true => exact sxs.ret (sx.yes (tv.to (tv.val (ev.binop (ev.name rfl) (ev.index (ev.cg T.W (evs.cons (ev.name rfl) evs.nil) (c_worths T hd')) (ev.name rfl) (IX.list (by omega) (by omega) (by rw [Int.toNat_natCast]; exact worth_at hd' hk))) P2.band) PB.int) h) (sxs.ret (sx.ret ev.int)))
    | false => exact sxs.out (Le.cons rfl (Le.cons rfl (Le.cons rfl Le.nil))) (sxs.one (sx.no (tv.to (tv.val (ev.binop (ev.name rfl) (ev.index (ev.cg T.W (evs.cons (ev.name rfl) evs.nil) (c_worths T hd')) (ev.name rfl) (IX.list (by omega) (by omega) (by rw [Int.toNat_natCast]; exact worth_at hd' hk))) P2.band) PB.int) h) sxs.nil))
end
end Mine
end
section
open PySem PySem.W PyProof.Rows PySem.Calls PySem.SeqAt
set_option maxRecDepth 100000
set_option maxHeartbeats 1000000
namespace Mine
section
variable {w : World} {base : Heap} {n : Nat} {sc : Scope} {ρ ρ' ρ₁ ρ₂ : Rho} {ow ow' : Ow} {GL : Str → Option Value}

/-- the right k of class c, told backward -/
noncomputable def held (cs : List Cl) (first c k : Nat) : Nat := tracedGo first k [c] cs.reverse
theorem traced_le (first k : Nat) : ∀ (cs : List Cl) (asked : List Nat), tracedGo first k asked cs ≤ 1
  | [], asked => by
    show (if _ then _ else _ : Nat) ≤ 1
    split <;> decide
  | a :: r, asked => by
    show (match _ with | none => 1 | some led => tracedGo first k (askedOf led) r) ≤ 1
    split
    · decide
    · exact traced_le first k r _
theorem held_le (cs : List Cl) (first c k : Nat) : held cs first c k ≤ 1 := traced_le _ _ _ _
noncomputable def dueNum (cs : List Cl) (first c : Nat) : Int := ((List.range 4).map fun k => (worthsOf c).getD k 0 * (held cs first c k : Int)).sum
noncomputable def endsOf (c : Nat) : List (List Nat) := [[45, 120], [[83, 115], [83, 115], [84, 116]].getD c []]
noncomputable def dueSign (cs : List Cl) (first c : Nat) : Str :=
  signAt [45, 114] (held cs first c 0) ++ signAt [45, 119] (held cs first c 1) ++ signAt ((endsOf c).getD (held cs first c 3) []) (held cs first c 2)
noncomputable def typeSign (first : Nat) : Str := signAt [63, 112, 99, 63, 100, 63, 98, 63, 45, 63, 108, 63, 115, 63, 63, 63] (first / 4096)
noncomputable def dueNumber (cs : List Cl) (first : Nat) : Nat → Int
  | 0 => (first : Int) - ((first % 4096 : Nat) : Int)
  | c + 1 => dueNumber cs first c + dueNum cs first c
noncomputable def dueSigns (cs : List Cl) (first : Nat) : Nat → Str
  | 0 => typeSign first
  | c + 1 => dueSigns cs first c ++ dueSign cs first c
theorem two_signs (a b i : Nat) (h : i ≤ 1) : (⟨#[a, b]⟩ : Str).cps[i]? = some ([a, b].getD i 0) := by
  match i, h with
  | 0, _ => rfl
  | 1, _ => rfl
theorem due_len (cs : List Cl) (first : Nat) : ∀ c, (dueSigns cs first c).length = 3 * c + 1
  | 0 => rfl
  | c + 1 => by
    show (dueSigns cs first c ++ dueSign cs first c).length = _
    rw [slen, due_len cs first c]
    show _ + (signAt _ _ ++ signAt _ _ ++ signAt _ _).length = _
    simp only [slen]
    show 3 * c + 1 + (1 + 1 + 1) = _
    omega
theorem type_at {k : Nat} (h : k < 16) : ("?pc?d?b?-?l?s???" : Str).cps[k]? = some ([63, 112, 99, 63, 100, 63, 98, 63, 45, 63, 108, 63, 115, 63, 63, 63].getD k 0) := by
  have : ∀ k, k < 16 → ("?pc?d?b?-?l?s???" : Str).cps[k]? = some ([63, 112, 99, 63, 100, 63, 98, 63, 45, 63, 108, 63, 115, 63, 63, 63].getD k 0) := by decide +kernel
  exact this k h
noncomputable def heldL (cs : List Cl) (first c : Nat) : List PV := [.int (held cs first c 0 : Nat), .int (held cs first c 1 : Nat), .int (held cs first c 2 : Nat), .int (held cs first c 3 : Nat)]
theorem held_at (cs : List Cl) (first c : Nat) {k : Nat} (hk : k < 4) : (heldL cs first c)[k]? = some (.int (held cs first c k : Nat)) := by
  match k, hk with
  | 0, _ => rfl
  | 1, _ => rfl
  | 2, _ => rfl
  | 3, _ => rfl
noncomputable def endS (c : Nat) : Str := ⟨([[83, 115], [83, 115], [84, 116]].getD c []).toArray⟩
theorem end_at {c : Nat} (hc : c < 3) : ([.str "Ss", .str "Ss", .str "Tt"] : List PV)[c]? = some (.str (endS c)) := by
  match c, hc with
  | 0, _ => rfl
  | 1, _ => rfl
  | 2, _ => rfl
noncomputable def endsS (c i : Nat) : Str := ⟨((endsOf c).getD i []).toArray⟩
theorem ends_at {c i : Nat} (hi : i ≤ 1) : ([.str "-x", .str (endS c)] : List PV)[i]? = some (.str (endsS c i)) := by
  match i, hi with
  | 0, _ => rfl
  | 1, _ => rfl
theorem ends_sign {c i j : Nat} (hc : c < 3) (hi : i ≤ 1) (hj : j ≤ 1) : (endsS c i).cps[j]? = some (((endsOf c).getD i []).getD j 0) := by
  match c, hc, i, hi, j, hj with
  | 0, _, 0, _, 0, _ => rfl
  | 0, _, 0, _, 1, _ => rfl
  | 0, _, 1, _, 0, _ => rfl
  | 0, _, 1, _, 1, _ => rfl
  | 1, _, 0, _, 0, _ => rfl
  | 1, _, 0, _, 1, _ => rfl
  | 1, _, 1, _, 0, _ => rfl
  | 1, _, 1, _, 1, _ => rfl
  | 2, _, 0, _, 0, _ => rfl
  | 2, _, 0, _, 1, _ => rfl
  | 2, _, 1, _, 0, _ => rfl
  | 2, _, 1, _, 1, _ => rfl

theorem c_due (T : Tops GL base) (cs : List Cl) (first : Nat) (hok : ∀ a ∈ cs, a.Ok) (hlen : cs.length ≤ 12) (hf : first < 65536) :
    CG GL w base (n + 3) "_law_due" [.list (cs.map Cl.pv), .int first] (.list [.int (dueNumber cs first 3), .str (dueSigns cs first 3)]) := by
  have hz : sizeLine = 16777216 := by decide
  refine CG.def T.W T.due (by decide) rfl ?_
  refine sxs.cons (sx.assign (v := .int (dueNumber cs first 0)) (ev.to (ev.binop (ev.name rfl) (ev.binop (ev.name rfl) ev.int (P2.mod T.W (by decide))) P2.sub) (by show PV.int ((first : Int) - (first : Int).fmod 4096) = PV.int ((first : Int) - ((first % 4096 : Nat) : Int)); rw [Int.fmod_eq_emod_of_nonneg _ (by decide)]; rfl)) rfl) ?_
  refine sxs.cons (sx.assign (v := .str (dueSigns cs first 0)) (ev.index ev.str (ev.to (v' := .int (first / 4096 : Nat)) (ev.binop (ev.name rfl) ev.int (P2.fdiv T.W (by decide))) (by congr 1; rw [Int.fdiv_eq_ediv_of_nonneg _ (by decide)]; rfl)) (IX.str (by omega) (by omega) (by rw [Int.toNat_natCast]; exact type_at (by omega)))) rfl) ?_
  refine sxs.cons (ow' := none) (ρ' := [("signs", .str (dueSigns cs first 3)), ("number", .int (dueNumber cs first 3)), ("done", .list (cs.map Cl.pv)), ("first", .int first)]) (sx.for (items := (List.range 3).map fun (i : Nat) => PV.int i) (fe.of (ev.cg T.W (evs.cons ev.int evs.nil) (CG.range T (k := 3))) (IT.rng (by decide) (by decide))) (fl.le (Le.cons rfl (Le.cons rfl (Le.cons rfl (Le.cons rfl Le.nil)))) (fl.run (fun c => [("signs", .str (dueSigns cs first c)), ("number", .int (dueNumber cs first c)), ("done", .list (cs.map Cl.pv)), ("first", .int first)]) (fun _ => none) _ (fun c q hq => ?_) sxs.nil))) (sxs.ret (sx.ret (ev.list (evs.cons (ev.name rfl) (evs.cons (ev.name rfl) evs.nil)))))
  have hc : c < 3 := by
    obtain ⟨h, _⟩ := List.getElem?_eq_some_iff.mp hq
    simpa using h
  have eq : q = .int c := by
    rw [List.getElem?_map, List.getElem?_range hc] at hq
    simpa using hq.symm
  subst eq
  refine ⟨("c", .int c) :: [("signs", .str (dueSigns cs first c)), ("number", .int (dueNumber cs first c)), ("done", .list (cs.map Cl.pv)), ("first", .int first)], asg.name rfl, ?_⟩
  refine sxs.cons (sx.assign (v := .list (heldL cs first c)) (ev.to (ev.compR (k := 4) T (fun _ => true) (fun k => .int (held cs first c k : Nat)) rfl (fun i hi => tvs.nil) (fun k hk _ => ev.cg T.W (evs.cons (ev.name rfl) (evs.cons (ev.name rfl) (evs.cons (ev.name rfl) (evs.cons (ev.name rfl) evs.nil)))) (c_traced T cs first c k hok hlen hc hk))) rfl) rfl (by intro env h; unfold swapsWith; simp only [Env.blockKind, Env.kindOf, h]; rfl)) ?_
  have hb : ∀ h : Nat, h ≤ 1 → Builtin.Int.intBits (h : Int) ≤ 64 := fun h hh => by
    match h, hh with
    | 0, _ => decide
    | 1, _ => decide
  have h0 := held_le cs first c 0
  have h1 := held_le cs first c 1
  have h2 := held_le cs first c 2
  have h3 := held_le cs first c 3
  have hl := due_len cs first c
  refine sxs.cons (sx.assign (v := .list ((worthsOf c).map .int)) (ev.cg T.W (evs.cons (ev.name rfl) evs.nil) (c_worths T hc)) rfl) ?_
  refine sxs.cons (sx.aug (v := .int (dueNumber cs first (c + 1))) rfl (ev.cg T.W (evs.cons (ev.to (v' := .list (((List.range 4).map fun k => (worthsOf c).getD k 0 * (held cs first c k : Int)).map .int)) (ev.compR (k := 4) T (fun _ => true) (fun k => .int ((worthsOf c).getD k 0 * (held cs first c k : Int))) rfl (fun i hi => tvs.nil) (fun k hk _ => ev.binop (ev.index (ev.name rfl) (ev.name rfl) (IX.list (by omega) (by omega) (by rw [Int.toNat_natCast]; exact worth_at hc hk))) (ev.index (ev.name rfl) (ev.name rfl) (IX.list (by omega) (by omega) (by rw [Int.toNat_natCast]; exact held_at cs first c hk))) (P2.mul (.inr (hb _ (held_le _ _ _ _)))))) rfl) evs.nil) (CG.sum T)) P2.iadd rfl) ?_
  refine sxs.cons (sx.assign (v := .list [.str "-x", .str (endS c)]) (ev.list (evs.cons ev.str (evs.cons (ev.index (ev.list (evs.cons ev.str (evs.cons ev.str (evs.cons ev.str evs.nil)))) (ev.name rfl) (IX.list (by omega) (by omega) (by rw [Int.toNat_natCast]; exact end_at hc))) evs.nil))) rfl) ?_
  refine sxs.out (Le.cons rfl (Le.cons rfl (Le.cons rfl (Le.cons rfl Le.nil)))) (sxs.one (sx.aug (v := .str (dueSigns cs first (c + 1))) rfl (ev.binop (ev.binop (ev.index ev.str (ev.index (ev.name rfl) ev.int (IX.list (by decide) (by decide) (held_at cs first c (k := 0) (by decide)))) (IX.str (by omega) (by omega) (by rw [Int.toNat_natCast]; exact two_signs 45 114 _ h0))) (ev.index ev.str (ev.index (ev.name rfl) ev.int (IX.list (by decide) (by decide) (held_at cs first c (k := 1) (by decide)))) (IX.str (by omega) (by omega) (by rw [Int.toNat_natCast]; exact two_signs 45 119 _ h1))) (P2.adds ?_))
    (ev.index (ev.index (ev.name rfl) (ev.index (ev.name rfl) ev.int (IX.list (by decide) (by decide) (held_at cs first c (k := 3) (by decide)))) (IX.list (by omega) (by omega) (by rw [Int.toNat_natCast]; exact ends_at h3))) (ev.index (ev.name rfl) ev.int (IX.list (by decide) (by decide) (held_at cs first c (k := 2) (by decide)))) (IX.str (by omega) (by omega) (by rw [Int.toNat_natCast]; exact ends_sign hc h3 h2))) (P2.adds ?_)) (P2.iadds ?_) rfl))
  · show 1 + 1 ≤ sizeLine; omega
  · rw [slen]; show 1 + 1 + 1 ≤ sizeLine; omega
  · rw [slen, slen, hl]; show 3 * c + 1 + (1 + 1 + 1) ≤ sizeLine; omega
end
end Mine
end
section
open PySem PySem.W PyProof.Rows PySem.Calls PySem.SeqAt
set_option maxRecDepth 100000
set_option maxHeartbeats 1000000
namespace Mine
section
variable {w : World} {base : Heap} {n : Nat} {sc : Scope} {ρ ρ' ρ₁ ρ₂ : Rho} {ow ow' : Ow} {GL : Str → Option Value}

theorem CON.idx {x y : Str} {i : Nat} {rest : List Nat} (ho : Builtin.Str.occurrences x y 0 x.length 1 = i :: rest) : CON w base n (.builtin "str.index") [.str x, .str y] (.int i) := fun A g s xs ok rx Q E hq => by
  obtain ⟨v, u, rfl, rv, ru⟩ := un2 rx
  obtain ⟨t, rfl⟩ := unS rv
  obtain ⟨t', rfl⟩ := unS ru
  exact SC.index ho (hq _ s.heap _ g (Step.refl ok.sub) repI)

/-- four flags -/
structure B4 where
  r : Bool
  w : Bool
  x : Bool
  s : Bool
noncomputable def B4.at (b : B4) : Nat → Bool
  | 0 => b.r
  | 1 => b.w
  | 2 => b.x
  | _ => b.s
noncomputable def B4.pv (b : B4) : PV := .list [.bool b.r, .bool b.w, .bool b.x, .bool b.s]
theorem B4.get (b : B4) {k : Nat} (hk : k < 4) : ([.bool b.r, .bool b.w, .bool b.x, .bool b.s] : List PV)[k]? = some (.bool (b.at k)) := by
  match k, hk with
  | 0, _ => rfl
  | 1, _ => rfl
  | 2, _ => rfl
  | 3, _ => rfl
noncomputable def seenB (a b d : Nat) : B4 := ⟨(⟨#[a]⟩ : Str) == "r", (⟨#[b]⟩ : Str) == "w", inS ⟨#[d]⟩ "xst", inS ⟨#[d]⟩ "SsTt"⟩
noncomputable def ugoIx (rights : Str) : Nat := if rights == "u" then 0 else if rights == "g" then 1 else 2
noncomputable def namedOf (H : Nat → B4) (rights : Str) (c : Nat) : B4 :=
  if (["u", "g", "o"] : List Str).any (· == rights) then H (ugoIx rights) else ⟨inS "r" rights, inS "w" rights, inS "x" rights, inS (signAt [115, 115, 116] c) rights⟩
noncomputable def ownOf (H : Nat → B4) (words deed rights : Str) (c : Nat) : B4 :=
  if words == "a" || inS (signAt [117, 103, 111] c) words then
    (if deed == "=" then namedOf H rights c
     else if deed == "+" then ⟨(H c).r || (namedOf H rights c).r, (H c).w || (namedOf H rights c).w, (H c).x || (namedOf H rights c).x, (H c).s || (namedOf H rights c).s⟩
     else ⟨(H c).r && !(namedOf H rights c).r, (H c).w && !(namedOf H rights c).w, (H c).x && !(namedOf H rights c).x, (H c).s && !(namedOf H rights c).s⟩)
  else H c
noncomputable def sumOf (b : B4) (c : Nat) : Int := (((List.range 4).filter b.at).map fun k => (worthsOf c).getD k 0).sum
noncomputable def stepGo (m : Int) (H : Nat → B4) (words deed rights : Str) : Nat → Int
  | 0 => Builtin.bitAnd m 61440
  | c + 1 => stepGo m H words deed rights c + sumOf (ownOf H words deed rights c) c
theorem sst_at {k : Nat} (h : k < 3) : ("sst" : Str).cps[k]? = some ([115, 115, 116].getD k 0) := by
  match k, h with
  | 0, _ => rfl
  | 1, _ => rfl
  | 2, _ => rfl
theorem ugo_ix {rights : Str} (h : (["u", "g", "o"] : List Str).any (· == rights) = true) : ∃ rest, Builtin.Str.occurrences "ugo" rights 0 ("ugo" : Str).length 1 = ugoIx rights :: rest := by
  simp only [List.any_cons, List.any_nil, Bool.or_false, Bool.or_eq_true] at h
  rcases h with h | h | h
  · rw [← eq_of_beq h]; exact ⟨[], by decide +kernel⟩
  · rw [← eq_of_beq h]; exact ⟨[], by decide +kernel⟩
  · rw [← eq_of_beq h]; exact ⟨[], by decide +kernel⟩
theorem ugoIx_lt (rights : Str) : ugoIx rights < 3 := by
  unfold ugoIx
  split
  · decide
  · split <;> decide
theorem three_at (H : Nat → B4) {k : Nat} (h : k < 3) : ([(H 0).pv, (H 1).pv, (H 2).pv] : List PV)[k]? = some (H k).pv := by
  match k, h with
  | 0, _ => rfl
  | 1, _ => rfl
  | 2, _ => rfl

theorem c_step (T : Tops GL base) (m : Int) (words deed rights : Str) (A B D : Nat → Nat) (hcut : ∀ c : Nat, c < 3 → cut (fmode m) (3 * (c : Int) + 1) (3 * (c : Int) + 4) = ⟨#[A c, B c, D c]⟩) :
    CG GL w base (n + 3) "_law_step" [.int m, .list [.str words, .str deed, .str rights]] (.int (stepGo m (fun c => seenB (A c) (B c) (D c)) words deed rights 3)) := by
  have hz : sizeLine = 16777216 := by decide
  generalize hH : (fun c => seenB (A c) (B c) (D c)) = H
  have hH' : ∀ c, H c = seenB (A c) (B c) (D c) := fun c => by rw [← hH]
  refine CG.def T.W T.step (by decide) rfl ?_
  refine sxs.cons (ow' := none) (ρ' := [("rights", .str rights), ("deed", .str deed), ("words", .str words), ("mode", .int m)]) (sx.out (Le.cons rfl (Le.cons rfl (Le.cons rfl (Le.cons rfl Le.nil)))) (sx.assignT (ev.name rfl) (asg.list (l := [("words", _), ("deed", _), ("rights", _)]) rfl rfl))) ?_
  refine sxs.cons (sx.assign (v := .str (fmode m)) (ev.cg T.W (evs.cons (ev.name rfl) evs.nil) (c_filemode T m)) rfl) ?_
  refine sxs.cons (sx.out (ρ₂ := [("held", .list [(H 0).pv, (H 1).pv, (H 2).pv]), ("rights", .str rights), ("deed", .str deed), ("words", .str words), ("mode", .int m)]) (Le.cons rfl (Le.cons rfl (Le.cons rfl (Le.cons rfl (Le.cons rfl Le.nil))))) (sx.assignR (k := 3) T (fun _ => true) (fun c => (H c).pv) rfl (fun i hi => tvs.nil) (fun c hc _ => ev.to (ev.cg T.W (evs.cons (ev.name rfl) (evs.cons (ev.name rfl) evs.nil)) (c_seen T hc (hcut c hc))) (by rw [hH' c]; rfl)) rfl (by intro env h; unfold swapsWith; simp only [Env.blockKind, Env.kindOf, h]; rfl))) ?_
  refine sxs.cons (sx.assign (v := .int (stepGo m H words deed rights 0)) (ev.cg T.W (evs.cons (ev.name rfl) evs.nil) (c_ifmt T m)) rfl) ?_
  refine sxs.cons (ow' := none) (ρ' := [("after", .int (stepGo m H words deed rights 3)), ("held", .list [(H 0).pv, (H 1).pv, (H 2).pv]), ("rights", .str rights), ("deed", .str deed), ("words", .str words)]) (sx.for (items := (List.range 3).map fun (i : Nat) => PV.int i) (fe.of (ev.cg T.W (evs.cons ev.int evs.nil) (CG.range T (k := 3))) (IT.rng (by decide) (by decide))) (fl.le (Le.cons rfl (Le.cons rfl (Le.cons rfl (Le.cons rfl (Le.cons rfl Le.nil))))) (fl.run (fun c => [("after", .int (stepGo m H words deed rights c)), ("held", .list [(H 0).pv, (H 1).pv, (H 2).pv]), ("rights", .str rights), ("deed", .str deed), ("words", .str words)]) (fun _ => none) _ (fun c q hq => ?_) sxs.nil))) (sxs.ret (sx.ret (ev.name rfl)))
  have hc : c < 3 := by
    obtain ⟨h, _⟩ := List.getElem?_eq_some_iff.mp hq
    simpa using h
  have eq : q = .int c := by
    rw [List.getElem?_map, List.getElem?_range hc] at hq
    simpa using hq.symm
  subst eq
  refine ⟨("c", .int c) :: [("after", .int (stepGo m H words deed rights c)), ("held", .list [(H 0).pv, (H 1).pv, (H 2).pv]), ("rights", .str rights), ("deed", .str deed), ("words", .str words)], asg.name rfl, ?_⟩
  refine sxs.cons (sx.assign (v := (H c).pv) (ev.index (ev.name rfl) (ev.name rfl) (IX.list (by omega) (by omega) (by rw [Int.toNat_natCast]; exact three_at H hc))) rfl) ?_
  refine sxs.cons (ow' := none) (ρ' := ("own", (ownOf H words deed rights c).pv) :: ("c", .int c) :: [("after", .int (stepGo m H words deed rights c)), ("held", .list [(H 0).pv, (H 1).pv, (H 2).pv]), ("rights", .str rights), ("deed", .str deed), ("words", .str words)]) (sx.ite (b := words == "a" || inS (signAt [117, 103, 111] c) words) (tv.or (tv.cmp (ev.name rfl) ev.str P2.eqs PB.bool) (fun _ => tv.cmp (ev.index ev.str (ev.name rfl) (IX.str (by omega) (by omega) (by rw [Int.toNat_natCast]; exact ugo_at hc))) (ev.name rfl) P2.ins PB.bool)) (fun hb => ?_) (fun hb => ?_)) ?_
  · have eo : ownOf H words deed rights c = (if deed == "=" then namedOf H rights c
     else if deed == "+" then ⟨(H c).r || (namedOf H rights c).r, (H c).w || (namedOf H rights c).w, (H c).x || (namedOf H rights c).x, (H c).s || (namedOf H rights c).s⟩
     else ⟨(H c).r && !(namedOf H rights c).r, (H c).w && !(namedOf H rights c).w, (H c).x && !(namedOf H rights c).x, (H c).s && !(namedOf H rights c).s⟩) := by unfold ownOf; rw [if_pos hb]
    rw [eo]
    refine sxs.cons (ow' := none) (ρ' := ("named", (namedOf H rights c).pv) :: ("own", (H c).pv) :: ("c", .int c) :: [("after", .int (stepGo m H words deed rights c)), ("held", .list [(H 0).pv, (H 1).pv, (H 2).pv]), ("rights", .str rights), ("deed", .str deed), ("words", .str words)]) (sx.ite (b := (["u", "g", "o"] : List Str).any (· == rights)) (tv.cmp (ev.name rfl) (ev.to (v' := .list ((["u", "g", "o"] : List Str).map .str)) (ev.list (evs.cons ev.str (evs.cons ev.str (evs.cons ev.str evs.nil)))) rfl) P2.inLS PB.bool) (fun h => ?_) (fun h => ?_)) ?_
    · have e : namedOf H rights c = H (ugoIx rights) := by unfold namedOf; rw [if_pos h]
      rw [e]
      obtain ⟨rest, ho⟩ := ugo_ix h
      have hu := ugoIx_lt rights
      exact sxs.one (sx.assign (v := (H (ugoIx rights)).pv) (ev.index (ev.name rfl) (ev.methS F.slot_str_index F.type_str_index ev.str (evs.cons (ev.name rfl) evs.nil) (CON.idx ho)) (IX.list (by omega) (by omega) (by rw [Int.toNat_natCast]; exact three_at H hu))) rfl)
    · have e : namedOf H rights c = ⟨inS "r" rights, inS "w" rights, inS "x" rights, inS (signAt [115, 115, 116] c) rights⟩ := by unfold namedOf; rw [h]; rfl
      rw [e]
      exact sxs.one (sx.assign (v := .list [.bool (inS "r" rights), .bool (inS "w" rights), .bool (inS "x" rights), .bool (inS (signAt [115, 115, 116] c) rights)]) (ev.list (evs.cons (ev.cmp ev.str (ev.name rfl) P2.ins) (evs.cons (ev.cmp ev.str (ev.name rfl) P2.ins) (evs.cons (ev.cmp ev.str (ev.name rfl) P2.ins) (evs.cons (ev.cmp (ev.index ev.str (ev.name rfl) (IX.str (by omega) (by omega) (by rw [Int.toNat_natCast]; exact sst_at hc))) (ev.name rfl) P2.ins) evs.nil))))) rfl)
    · generalize namedOf H rights c = N
      have le : ∀ {v : PV}, Le (("own", v) :: ("c", .int c) :: [("after", .int (stepGo m H words deed rights c)), ("held", .list [(H 0).pv, (H 1).pv, (H 2).pv]), ("rights", .str rights), ("deed", .str deed), ("words", .str words)]) (("own", v) :: ("named", N.pv) :: ("own", (H c).pv) :: ("c", .int c) :: [("after", .int (stepGo m H words deed rights c)), ("held", .list [(H 0).pv, (H 1).pv, (H 2).pv]), ("rights", .str rights), ("deed", .str deed), ("words", .str words)]) := fun {v} => Le.cons rfl (Le.cons rfl (Le.cons rfl (Le.cons rfl (Le.cons rfl (Le.cons rfl (Le.cons rfl Le.nil))))))
      cases h1 : deed == ("=" : Str) with
      | true =>
        exact sxs.out le (sxs.one (sx.yes (tv.to (tv.cmp (ev.name rfl) ev.str P2.eqs PB.bool) h1) (sxs.one (sx.assign (ev.name rfl) rfl))))
      | false =>
        cases h2 : deed == ("+" : Str) with
        | true =>
          refine sxs.out le (sxs.one (sx.no (tv.to (tv.cmp (ev.name rfl) ev.str P2.eqs PB.bool) h1) (sxs.one (sx.yes (tv.to (tv.cmp (ev.name rfl) ev.str P2.eqs PB.bool) h2) (sxs.one (sx.assign (ev.to (ev.compR (k := 4) T (fun _ => true) (fun k => .bool ((H c).at k || N.at k)) rfl (fun i hi => tvs.nil) (fun k hk _ => ev.or (ev.index (ev.name rfl) (ev.name rfl) (IX.list (by omega) (by omega) (by rw [Int.toNat_natCast]; exact B4.get _ hk))) (fun _ => ev.index (ev.name rfl) (ev.name rfl) (IX.list (by omega) (by omega) (by rw [Int.toNat_natCast]; exact B4.get _ hk))))) rfl) rfl (by intro env h; unfold swapsWith; simp only [Env.blockKind, Env.kindOf, h]; rfl)))))))
        | false =>
          refine sxs.out le (sxs.one (sx.no (tv.to (tv.cmp (ev.name rfl) ev.str P2.eqs PB.bool) h1) (sxs.one (sx.no (tv.to (tv.cmp (ev.name rfl) ev.str P2.eqs PB.bool) h2) (sxs.one (sx.assign (ev.to (ev.compR (k := 4) T (fun _ => true) (fun k => .bool ((H c).at k && !N.at k)) rfl (fun i hi => tvs.nil) (fun k hk _ => ev.and (ev.index (ev.name rfl) (ev.name rfl) (IX.list (by omega) (by omega) (by rw [Int.toNat_natCast]; exact B4.get _ hk))) (fun _ => ev.not (ev.index (ev.name rfl) (ev.name rfl) (IX.list (by omega) (by omega) (by rw [Int.toNat_natCast]; exact B4.get _ hk))) PB.bool))) rfl) rfl (by intro env h; unfold swapsWith; simp only [Env.blockKind, Env.kindOf, h]; rfl)))))))
  · have e : ownOf H words deed rights c = H c := by unfold ownOf; rw [hb]; rfl
    rw [e]
    exact sxs.nil
  · refine sxs.cons (sx.assign (v := .list ((worthsOf c).map .int)) (ev.cg T.W (evs.cons (ev.name rfl) evs.nil) (c_worths T hc)) rfl) ?_
    refine sxs.out (Le.cons rfl (Le.cons rfl (Le.cons rfl (Le.cons rfl (Le.cons rfl Le.nil))))) (sxs.one (sx.aug (v := .int (stepGo m H words deed rights (c + 1))) rfl (ev.cg T.W (evs.cons (ev.to (v' := .list ((((List.range 4).filter (ownOf H words deed rights c).at).map fun k => (worthsOf c).getD k 0).map .int)) (ev.compR (k := 4) T (ownOf H words deed rights c).at (fun k => .int ((worthsOf c).getD k 0)) rfl (fun k hk => tvs.one (tv.val (ev.index (ev.name rfl) (ev.name rfl) (IX.list (by omega) (by omega) (by rw [Int.toNat_natCast]; exact B4.get _ hk))) PB.bool)) (fun k hk _ => ev.index (ev.name rfl) (ev.name rfl) (IX.list (by omega) (by omega) (by rw [Int.toNat_natCast]; exact worth_at hc hk)))) (by rw [List.map_map]; rfl)) evs.nil) (CG.sum T)) P2.iadd rfl))
end
end Mine
end
section
open PySem PySem.W PyProof.Rows PySem.Calls PySem.SeqAt
set_option maxRecDepth 100000
namespace Mine

noncomputable def NotRec (r : Heap) (b : Addr) : Prop := ∀ o vs, r.get? b = some o → o.data ≠ .fields vs
/-- of this activation, of this statement, and nobody's data -/
noncomputable def Loose (h₀ r : Heap) (g : Gh) (b : Addr) : Prop := h₀.get? b = none ∧ g b = none ∧ NotRec r b
noncomputable def TbIs (h₀ r : Heap) (g : Gh) (h : Heap) (e : Addr) (v : Option Value) : Option Value → Prop
  | none => v = some .none
  | some fl => ∃ T oT ts, v = some (.ref T) ∧ Loose h₀ r g T ∧ T ≠ e ∧ h.get? T = some oT ∧ oT.data = .fields ts ∧ ts[3]? = some fl
/-- the exception e is under way -/
structure Fly (h₀ r : Heap) (g : Gh) (h : Heap) (e : Addr) (cls : Value) (args : Option (List PV)) (tb : Option Value) : Prop where
  loose : Loose h₀ r g e
  obj : ∃ oe vs t, h.get? e = some oe ∧ oe.cls = cls ∧ oe.data = .fields vs ∧ vs[0]? = some t ∧ (∀ l, args = some l → Rep g (.tup l) t) ∧ TbIs h₀ r g h e vs[1]? tb
/-- what looking at the exception does to the heap -/
structure StepX (h₀ r : Heap) (g : Gh) (h h' : Heap) : Prop where
  ext : ∀ b o, h.get? b = some o → (Loose h₀ r g b ∧ ∃ vs, o.data = .fields vs) ∨ ∃ o', h'.get? b = some o' ∧ o'.data = o.data ∧ ((∀ es ep, o.data ≠ .dict es ep) → o' = o)
  ex : ∀ b o, h.get? b = some o → ∃ o', h'.get? b = some o'
  sub : Sub g h'
theorem StepX.refl {h₀ r : Heap} {g : Gh} {h : Heap} (s : Sub g h) : StepX h₀ r g h h := ⟨fun b o e => .inr ⟨o, e, rfl, fun _ => rfl⟩, fun b o e => ⟨o, e⟩, s⟩
theorem StepX.trans {h₀ r : Heap} {g : Gh} {h h' h'' : Heap} (a : StepX h₀ r g h h') (b : StepX h₀ r g h' h'') : StepX h₀ r g h h'' :=
  ⟨fun x o e => (a.ext x o e).elim .inl fun ⟨o', e1, d1, k1⟩ => (b.ext x o' e1).elim (fun ⟨l, vs, z⟩ => .inl ⟨l, vs, d1 ▸ z⟩) fun ⟨o'', e2, d2, k2⟩ => .inr ⟨o'', e2, d2.trans d1, fun hn => by
    have := k1 hn; subst this
    exact k2 hn⟩, fun x o e => let ⟨o', e'⟩ := a.ex x o e; b.ex x o' e', b.sub⟩
theorem StepX.nonf {h₀ r : Heap} {g : Gh} {h h' : Heap} (a : StepX h₀ r g h h') {b : Addr} {o : Obj} (e : h.get? b = some o) (hn : ∀ vs, o.data ≠ .fields vs) : ∃ o', h'.get? b = some o' ∧ o'.data = o.data ∧ ((∀ es ep, o.data ≠ .dict es ep) → o' = o) :=
  (a.ext b o e).elim (fun ⟨_, vs, z⟩ => absurd z (hn vs)) id
theorem StepX.none {h₀ r : Heap} {g : Gh} {h h' : Heap} (a : StepX h₀ r g h h') {b : Addr} (e : h'.get? b = none) : h.get? b = none := by
  cases q : h.get? b with
  | none => rfl
  | some o => obtain ⟨o', z⟩ := a.ex b o q; rw [e] at z; cases z
theorem StepX.ns {h₀ r : Heap} {g : Gh} {h h' : Heap} (a : StepX h₀ r g h h') {c : Addr} {m : Str → Option Value} (x : h.Ns c m) : h'.Ns c m := by
  obtain ⟨o, es, ep, e1, e2, e3⟩ := x
  obtain ⟨o', y, d, _⟩ := a.nonf e1 (fun vs z => by rw [e2] at z; cases z)
  exact ⟨o', es, ep, y, d.trans e2, e3⟩
theorem StepX.cellAt {h₀ r : Heap} {g : Gh} {h h' : Heap} (a : StepX h₀ r g h h') {c : Addr} {o : Obj} {v : Option Value} (e : h.get? c = some o) (hf : o.data = .cell v) : h'.get? c = some o := by
  obtain ⟨o', y, d, k⟩ := a.nonf e (fun vs z => by rw [hf] at z; cases z)
  rw [k (fun es ep z => by rw [hf] at z; cases z)] at y; exact y
theorem StepX.plain {h₀ r : Heap} {g : Gh} {h h' : Heap} (a : StepX h₀ r g h h') {c : Addr} {items : Array Value} (x : h.PlainList c items) : h'.PlainList c items := by
  obtain ⟨k, e⟩ := x
  obtain ⟨o', y, d, z⟩ := a.nonf e (fun vs z => nomatch z)
  rw [z (fun es ep z => nomatch z)] at y; exact ⟨k, y⟩
theorem Held.stepX {h₀ r : Heap} {g : Gh} {h h' : Heap} {env : Env} {x : Str} {v : Value} (k : Held h env x v) (a : StepX h₀ r g h h') : Held h' env x v :=
  k.imp (fun ⟨a1, m, b, c⟩ => ⟨a1, m, a.ns b, c⟩) fun ⟨a1, c, o, b, d, f⟩ => ⟨a1, c, o, b, a.cellAt d f, f⟩

section
variable {w : World} {base : Heap} {n : Nat} {sc : Scope} {ρ ρ' : Rho} {ow ow' : Ow} {GL : Str → Option Value}
theorem GS.touch {A : Around} {env : Env} {h₀ r : Heap} {g₀ g : Gh} {h h' : Heap} (k : GS base n A env h₀ g₀ g ρ ow h) (x : StepX h₀ r g h h') : GS base n A env h₀ g₀ g ρ ow h' := by
  refine ⟨⟨⟨x.sub, k.good.ok.gb, k.good.ok.handled, k.good.ok.depth, k.good.ok.units, ?_⟩, k.good.envok, fun y v hy => ?_⟩, ?_, k.grow, k.new, ?_, ?_, k.inj, ?_⟩
  · obtain ⟨l, e1, e2⟩ := k.good.ok.frames
    refine ⟨l, e1, e2.upd (fun b o es ep e hf => ?_) fun b e _ => e⟩
    obtain ⟨o', y, d, _⟩ := x.nonf e (fun vs z => by rw [hf] at z; cases z)
    exact ⟨o', es, ep, y, d.trans hf⟩
  · obtain ⟨pv, a, b⟩ := k.good.names y v hy
    exact ⟨pv, a.stepX x, b⟩
  · intro b o e
    obtain ⟨o', e1, d1, k1⟩ := k.keep b o e
    rcases x.ext b o' e1 with ⟨l, _⟩ | ⟨o'', e2, d2, k2⟩
    · rw [l.1] at e; cases e
    · exact ⟨o'', e2, d2.trans d1, fun hn => by
        have := k1 hn; subst this
        exact k2 hn⟩
  · obtain ⟨a, b, m, c⟩ := k.loc
    exact ⟨a, b, m, x.ns c⟩
  · intro y hy
    obtain ⟨c, v, h1, ⟨o, q1, q2⟩, h3, h4⟩ := k.cel y hy
    exact ⟨c, v, h1, ⟨o, x.cellAt q1 q2, q2⟩, h3, h4⟩
  · intro y l e
    obtain ⟨a, items, h1, h2, h3, h4, h5⟩ := k.own y l e
    exact ⟨a, items, h1.stepX x, x.plain h2, h3, h4, h5⟩
theorem KF.touch {h₀ r : Heap} {g₁ g : Gh} {h h' : Heap} (k : KF g₁ g r h) (x : StepX h₀ r g h h') : KF g₁ g r h' := fun b o vs e f => by
  obtain ⟨h1, h2⟩ := k b o vs e f
  refine ⟨?_, h2⟩
  rcases x.ext b o h1 with ⟨l, _⟩ | ⟨o', e2, d2, k2⟩
  · exact absurd f (l.2.2 o vs e)
  · rw [k2 (fun es ep z => by rw [f] at z; cases z)] at e2; exact e2

section
variable {M : Model} {A : Around} {E : Value → Shared → Prop} {s : Shared}

theorem TbIs.step {h₀ r : Heap} {g : Gh} {h h' : Heap} {e : Addr} {v tb : Option Value} (x : TbIs h₀ r g h e v tb) (k : ∀ T oT, v = some (.ref T) → T ≠ e → h.get? T = some oT → h'.get? T = some oT) : TbIs h₀ r g h' e v tb := by
  cases tb with
  | none => exact x
  | some fl =>
    obtain ⟨T, oT, ts, h1, h2, h3, h4, h5⟩ := x
    exact ⟨T, oT, ts, h1, h2, h3, k T oT h1 h3 h4, h5⟩

theorem entry_go {base : Heap} {env : Env} {outer : List Env} {L e : Addr} {h₀ r : Heap} {g : Gh} {cls t : Value} {args : Option (List PV)} {oe : Obj} {vs : Array Value} {head : Value} {hadNext : Bool} {Q : Unit → Shared → Prop}
    (hfr : A.frames = some (env :: outer)) (hF : FrOk base g s.heap (env :: outer)) (hf : env.frame = some L) (hsub : Sub g s.heap)
    (h0 : ∀ b, s.heap.get? b = none → h₀.get? b = none) (hr : ∀ b o vs, r.get? b = some o → o.data = .fields vs → s.heap.get? b = some o)
    (hl : Loose h₀ r g e) (he : s.heap.get? e = some oe) (hc : oe.cls = cls) (hd : oe.data = .fields vs) (hsz : 1 < vs.size) (ht : vs[0]? = some t) (hrep : (∀ l, args = some l → Rep g (.tup l) t))
    (hq : ∀ h', StepX h₀ r g s.heap h' → Fly h₀ r g h' e cls args (some (rawInt L)) → Q () { s with heap := h' }) :
    wpAny M A (do let a ← frameOf env; let pl ← entryPlaceOf L hadNext; let b ← EntryCells.newEntry head a .none (rawInt L) .none pl; setField (.ref e) 1 b) Q E s := by
  have hfs : ∀ b ∈ (env :: outer).filterMap (·.frame), ∃ o es ep, s.heap.get? b = some o ∧ o.data = .dict es ep ∧ g b = none := fun b hb => by
    obtain ⟨env', he', hb'⟩ := List.mem_filterMap.mp hb
    obtain ⟨L', o, es, ep, p1, p2, p3, p4⟩ := hF.2 env' he'
    rw [hb'] at p1; cases p1
    exact ⟨o, es, ep, p2, p3, p4⟩
  have hene : e ∉ (env :: outer).filterMap (·.frame) := fun hm => by
    obtain ⟨o, es, ep, q1, q2, _⟩ := hfs e hm
    rw [he] at q1; cases q1; rw [hd] at q2; cases q2
  refine wpAny_bind (wpAny_frameOf_fun hfr hF.1 hf fun h₁ hs₁ => ?_)
  refine wpAny_bind (wpAny_entryPlaceOf fun pl hpl => ?_)
  unfold EntryCells.newEntry newFields
  refine wpAny_bind (wpAny_newObj_type ?_ (hpl.sizeOk5 _ _ _ _ _))
  have he₁ : h₁.get? e = some oe := (hs₁.2.1 e hene).trans he
  have he₂ := Heap.get?_push_of_some (h := h₁) { cls := .type "traceback", dict := none, data := .fields ([head, .ref L, .none, rawInt L, .none] ++ (if pl.isEmpty then List.replicate 6 Value.none else pl)).toArray } he₁
  refine wpAny_setField he₂ hd hsz (hq _ ?_ ?_)
  · refine ⟨fun b o hb => ?_, fun b o hb => ?_, fun b o hb => ?_⟩
    · by_cases hbe : b = e
      · subst hbe
        rw [he] at hb; cases hb
        exact .inl ⟨hl, vs, hd⟩
      · right
        rw [Heap.get?_update_other _ _ (Ne.symm hbe)]
        by_cases hbf : b ∈ (env :: outer).filterMap (·.frame)
        · obtain ⟨o', es, ep, q1, q2, _⟩ := hfs b hbf
          rw [hb] at q1; cases q1
          obtain ⟨sl, z⟩ := hs₁.2.2 b o hb
          exact ⟨_, Heap.get?_push_of_some _ z, rfl, fun hn => absurd q2 (hn es ep)⟩
        · exact ⟨o, Heap.get?_push_of_some _ ((hs₁.2.1 b hbf).trans hb), rfl, fun _ => rfl⟩
    · by_cases hbe : b = e
      · subst hbe
        exact ⟨_, Heap.get?_update_self _ he₂ (Obj.isFreed_of_fields (Obj.data_mapFields hd _))⟩
      · rw [Heap.get?_update_other _ _ (Ne.symm hbe)]
        obtain ⟨sl, z⟩ := hs₁.2.2 b o hb
        exact ⟨_, Heap.get?_push_of_some _ z⟩
    · have hbe : b ≠ e := fun z => by rw [z, hl.2.1] at hb; cases hb
      rw [Heap.get?_update_other _ _ (Ne.symm hbe)]
      have hbf : b ∉ (env :: outer).filterMap (·.frame) := fun z => by
        obtain ⟨_, _, _, _, _, q⟩ := hfs b z
        rw [q] at hb; cases hb
      exact Heap.get?_push_of_some _ ((hs₁.2.1 b hbf).trans (hsub b o hb))
  · have hTe : h₁.objs.size ≠ e := Nat.ne_of_gt (Heap.lt_size he₁)
    have hd₃ := Obj.data_mapFields hd (·.setIfInBounds 1 (Value.ref h₁.objs.size))
    have he₃ := Heap.get?_update_self (Obj.mapFields (·.setIfInBounds 1 (Value.ref h₁.objs.size))) he₂ (Obj.isFreed_of_fields hd₃)
    have hT₃ := (Heap.get?_update_other (h₁.push { cls := .type "traceback", dict := none, data := .fields ([head, .ref L, .none, rawInt L, .none] ++ (if pl.isEmpty then List.replicate 6 Value.none else pl)).toArray })
      (Obj.mapFields (·.setIfInBounds 1 (Value.ref h₁.objs.size))) (Ne.symm hTe)).trans (Heap.get?_push_size h₁ rfl)
    have hTs : s.heap.get? h₁.objs.size = none := by rw [hs₁.1]; exact fresh_size _
    refine ⟨hl, _, _, t, he₃, (Obj.cls_mapFields _ _).trans hc, hd₃, ?_, hrep, h₁.objs.size, _, _, ?_, ⟨h0 _ hTs, sub_none hsub hTs, fun o vs' e1 e2 => ?_⟩, hTe, hT₃, rfl, ?_⟩
    · rw [Array.getElem?_setIfInBounds_ne (by decide)]; exact ht
    · simp [hsz]
    · have := hr _ _ _ e1 e2
      rw [hTs] at this; cases this
    · first | (simp; done) | (rcases hpl with rfl | ⟨_, _, _, _, _, _, _, rfl⟩ <;> simp)

theorem note_go {base : Heap} {env : Env} {outer : List Env} {L e : Addr} {h₀ r : Heap} {g : Gh} {cls : Value} {args : Option (List PV)} {tb : Option Value} {Q : Unit → Shared → Prop}
    (hfr : A.frames = some (env :: outer)) (hF : FrOk base g s.heap (env :: outer)) (hf : env.frame = some L) (hsub : Sub g s.heap)
    (h0 : ∀ b, s.heap.get? b = none → h₀.get? b = none) (hr : ∀ b o vs, r.get? b = some o → o.data = .fields vs → s.heap.get? b = some o)
    (y : Fly h₀ r g s.heap e cls args tb) (ht : tb = none ∨ tb = some .none ∨ tb = some (rawInt L))
    (hq : ∀ h', StepX h₀ r g s.heap h' → Fly h₀ r g h' e cls args (some (rawInt L)) → Q () { s with heap := h' }) : wpAny M A (noteFrame (.ref e) env) Q E s := by
  obtain ⟨hl, oe, vs, t, he, hc, hd, h1, hrep, htb⟩ := id y
  unfold noteFrame
  simp only [hf]
  rcases ht with rfl | rfl | rfl
  · refine wpAny_bind (wpAny_field he hd htb ?_)
    rw [if_neg (by decide)]
    exact entry_go hfr hF hf hsub h0 hr hl he hc hd (Array.getElem?_eq_some_iff.mp htb).1 h1 hrep hq
  · obtain ⟨T, oT, ts, e1, e2, e3, e4, e5, e6⟩ := htb
    refine wpAny_bind (wpAny_field he hd e1 ?_)
    rw [if_pos (show (Value.ref T != Value.none) = true from by simp)]
    refine wpAny_bind (wpAny_field e4 e5 e6 ?_)
    rw [if_neg (show ¬ ((Value.none == rawInt L) = true) from by simp [rawInt])]
    refine wpAny_bind (wpAny_setField e4 e5 (Array.getElem?_eq_some_iff.mp e6).1 ?_)
    have other : ∀ b, b ≠ T → (s.heap.update T (Obj.mapFields (·.setIfInBounds 3 Value.none))).get? b = s.heap.get? b := fun b hb => Heap.get?_update_other _ _ (Ne.symm hb)
    have self := Heap.get?_update_self (Obj.mapFields (·.setIfInBounds 3 Value.none)) e4 (Obj.isFreed_of_fields (Obj.data_mapFields e5 _))
    have sx : StepX h₀ r g s.heap (s.heap.update T (Obj.mapFields (·.setIfInBounds 3 Value.none))) := by
      refine ⟨fun b o hb => ?_, fun b o hb => ?_, fun b o hb => ?_⟩
      · by_cases hbT : b = T
        · subst hbT; rw [e4] at hb; cases hb; exact .inl ⟨e2, ts, e5⟩
        · exact .inr ⟨o, (other b hbT).trans hb, rfl, fun _ => rfl⟩
      · by_cases hbT : b = T
        · subst hbT; exact ⟨_, self⟩
        · exact ⟨o, (other b hbT).trans hb⟩
      · exact (other b fun z => by rw [z, e2.2.1] at hb; cases hb).trans (hsub b o hb)
    refine entry_go (s := { s with heap := _ }) hfr (hF.upd (fun b o es ep e hf => ?_) fun _ e _ => e) hf sx.sub (fun b hb => h0 b (sx.none hb)) (fun b o vs' q1 q2 => ?_) hl ((other e (Ne.symm e3)).trans he) hc hd (Array.getElem?_eq_some_iff.mp e1).1 h1 hrep fun h' sx' y' => hq h' (sx.trans sx') y'
    · exact ⟨o, es, ep, (other b fun z => by rw [z, e4] at e; cases e; rw [e5] at hf; cases hf).trans e, hf⟩
    · exact (other b fun z => by rw [z] at q1; exact absurd q2 (e2.2.2 o vs' q1)).trans (hr b o vs' q1 q2)
  · obtain ⟨T, oT, ts, e1, e2, e3, e4, e5, e6⟩ := htb
    refine wpAny_bind (wpAny_field he hd e1 ?_)
    rw [if_pos (show (Value.ref T != Value.none) = true from by simp)]
    refine wpAny_bind (wpAny_field e4 e5 e6 ?_)
    rw [if_pos (show (rawInt L == rawInt L) = true from by simp)]
    exact wpAny_pure (hq _ (.refl hsub) y)

theorem flight_go {e : Addr} {h₀ r : Heap} {g : Gh} {cls : Value} {args : Option (List PV)} {fl : Value} {fr : Option Addr} {Q : Unit → Shared → Prop} (hsub : Sub g s.heap)
    (y : Fly h₀ r g s.heap e cls args (some fl))
    (hq : ∀ h', StepX h₀ r g s.heap h' → Fly h₀ r g h' e cls args (some (fr.elim .none fun f => rawInt f)) → Q () { s with heap := h' }) : wpAny M A (setFlight (.ref e) fr) Q E s := by
  obtain ⟨hl, oe, vs, t, he, hc, hd, h1, hrep, T, oT, ts, e1, e2, e3, e4, e5, e6⟩ := id y
  have hsz := (Array.getElem?_eq_some_iff.mp e6).1
  unfold setFlight
  refine wpAny_bind (wpAny_field he hd e1 ?_)
  rw [if_pos (show (Value.ref T != Value.none) = true from by simp)]
  have other : ∀ b, b ≠ T → (s.heap.update T (Obj.mapFields (·.setIfInBounds 3 (fr.elim .none fun f => rawInt f)))).get? b = s.heap.get? b := fun b hb => Heap.get?_update_other _ _ (Ne.symm hb)
  have self := Heap.get?_update_self (Obj.mapFields (·.setIfInBounds 3 (fr.elim Value.none fun f => rawInt f))) e4 (Obj.isFreed_of_fields (Obj.data_mapFields e5 _))
  refine wpAny_setField e4 e5 hsz (hq _ ⟨fun b o hb => ?_, fun b o hb => ?_, fun b o hb => ?_⟩ ⟨hl, oe, vs, t, (other e (Ne.symm e3)).trans he, hc, hd, h1, hrep, T, _, _, e1, e2, e3, self, Obj.data_mapFields e5 _, by simp [hsz]⟩)
  · by_cases hbT : b = T
    · subst hbT; rw [e4] at hb; cases hb; exact .inl ⟨e2, ts, e5⟩
    · exact .inr ⟨o, (other b hbT).trans hb, rfl, fun _ => rfl⟩
  · by_cases hbT : b = T
    · subst hbT; exact ⟨_, self⟩
    · exact ⟨o, (other b hbT).trans hb⟩
  · exact (other b fun z => by rw [z, e2.2.1] at hb; cases hb).trans (hsub b o hb)
end
end
end Mine
end
section
open PySem PySem.W PyProof.Rows PySem.Calls PySem.SeqAt
set_option maxRecDepth 100000
namespace Mine

/-- the activation at work -/
structure Act (A : Around) (env : Env) : Prop where
  top : ∃ outer, A.frames = some (env :: outer)
  frame : env.frame = some env.locals
noncomputable def TbF (env : Env) (tb : Option Value) : Prop := tb = none ∨ tb = some .none ∨ tb = some (rawInt env.locals)
structure ExcOk (base : Heap) (n : Nat) (A : Around) (env : Env) (h₀ : Heap) (g₀ g : Gh) (r : Heap) (ρ : Rho) (ow : Ow) (cls : Value) (args : Option (List PV)) (e : Addr) (g' : Gh) (h' : Heap) : Prop where
  gs : GS base n A env h₀ g₀ g' ρ ow h'
  grow : ∀ b o, g b = some o → g' b = some o
  kf : KF g g' r h'
  fly : ∃ tb, TbF env tb ∧ Fly h₀ r g' h' e cls args tb
theorem Loose.from {h₀ r r₁ : Heap} {g g₁ g' : Gh} {b : Addr} (l : Loose h₀ r₁ g' b) (k : KF g g₁ r r₁) : Loose h₀ r g' b := ⟨l.1, l.2.1, fun o vs e f => l.2.2 o vs (k b o vs e f).1 f⟩
theorem TbIs.from {h₀ r r₁ h : Heap} {g g₁ g' : Gh} {e : Addr} {v tb : Option Value} (x : TbIs h₀ r₁ g' h e v tb) (k : KF g g₁ r r₁) : TbIs h₀ r g' h e v tb := by
  cases tb with
  | none => exact x
  | some fl => obtain ⟨T, oT, ts, e1, e2, e3⟩ := x; exact ⟨T, oT, ts, e1, e2.from k, e3⟩
theorem Fly.from {h₀ r r₁ h : Heap} {g g₁ g' : Gh} {e : Addr} {cls : Value} {args : Option (List PV)} {tb : Option Value} (y : Fly h₀ r₁ g' h e cls args tb) (k : KF g g₁ r r₁) : Fly h₀ r g' h e cls args tb :=
  ⟨y.loose.from k, let ⟨oe, vs, t, a, b, c, d, f, x⟩ := y.obj; ⟨oe, vs, t, a, b, c, d, f, x.from k⟩⟩
/-- a fresh exception, seen from further out -/
theorem Loose.out {h₀ r q : Heap} {g : Gh} {b : Addr} (l : Loose q q g b) (k0 : ∀ b, q.get? b = none → h₀.get? b = none) (k1 : ∀ b, q.get? b = none → r.get? b = none) : Loose h₀ r g b := ⟨k0 b l.1, l.2.1, fun o vs e => by rw [k1 b l.1] at e; cases e⟩
theorem Fly.out {h₀ r q h : Heap} {g : Gh} {e : Addr} {cls : Value} {args : Option (List PV)} {tb : Option Value} (y : Fly q q g h e cls args tb) (k0 : ∀ b, q.get? b = none → h₀.get? b = none) (k1 : ∀ b, q.get? b = none → r.get? b = none) : Fly h₀ r g h e cls args tb := by
  refine ⟨y.loose.out k0 k1, ?_⟩
  obtain ⟨oe, vs, t, a, b, c, d, f, x⟩ := y.obj
  refine ⟨oe, vs, t, a, b, c, d, f, ?_⟩
  cases tb with
  | none => exact x
  | some fl => obtain ⟨T, oT, ts, e1, e2, e3⟩ := x; exact ⟨T, oT, ts, e1, e2.out k0 k1, e3⟩
theorem Loose.in {h₀ r : Heap} {g : Gh} {b : Addr} (l : Loose h₀ r g b) : Loose h₀ h₀ g b := ⟨l.1, l.2.1, fun o vs e => by rw [l.1] at e; cases e⟩
theorem Fly.loosen {h₀ r h : Heap} {g : Gh} {e : Addr} {cls : Value} {args : Option (List PV)} {tb : Option Value} (y : Fly h₀ r g h e cls args tb) : Fly h₀ h₀ g h e cls args tb := by
  refine ⟨y.loose.in, ?_⟩
  obtain ⟨oe, vs, t, a, b, c, d, f, x⟩ := y.obj
  refine ⟨oe, vs, t, a, b, c, d, f, ?_⟩
  cases tb with
  | none => exact x
  | some fl => obtain ⟨T, oT, ts, e1, e2, e3⟩ := x; exact ⟨T, oT, ts, e1, e2.in, e3⟩
theorem ExcOk.from {base : Heap} {n : Nat} {A : Around} {env : Env} {h₀ : Heap} {g₀ g g₁ g' : Gh} {r r₁ h' : Heap} {ρ : Rho} {ow : Ow} {cls : Value} {args : Option (List PV)} {e : Addr} (hg : ∀ b o, g b = some o → g₁ b = some o) (hk : KF g g₁ r r₁)
    (x : ExcOk base n A env h₀ g₀ g₁ r₁ ρ ow cls args e g' h') : ExcOk base n A env h₀ g₀ g r ρ ow cls args e g' h' :=
  ⟨x.gs, fun b o z => x.grow b o (hg b o z), hk.trans x.kf, let ⟨tb, a, b⟩ := x.fly; ⟨tb, a, b.from hk⟩⟩

/-- a change of phase: an object that nobody of us looks at drops out -/
structure Ph where
  h : Heap → Heap
  g : Gh → Gh
  b : Heap → Heap
  P : Gh → Prop
class Ph.Ok (ph : Ph) (base : Heap) : Prop where
  gs : ∀ {n : Nat} {A : Around} {env : Env} {h₀ : Heap} {g₀ g : Gh} {ρ : Rho} {ow : Ow} {h : Heap}, GS base n A env h₀ g₀ g ρ ow h → GS (ph.b base) n A env (ph.h h₀) (ph.g g₀) (ph.g g) ρ ow (ph.h h)
  ok : ∀ {n : Nat} {A : Around} {g : Gh} {h : Heap}, Mine.Ok base n A g h → Mine.Ok (ph.b base) n A (ph.g g) (ph.h h)
  rep : ∀ {n : Nat} {A : Around} {g : Gh} {h : Heap} {v : PV} {pv : Value}, Mine.Ok base n A g h → Rep g v pv → Rep (ph.g g) v pv
  step : ∀ {g g' : Gh} {h h' : Heap}, Step g g' h h' → Step (ph.g g) (ph.g g') (ph.h h) (ph.h h')
  kf : ∀ {g g' : Gh} {h h' : Heap}, KF g g' h h' → KF (ph.g g) (ph.g g') (ph.h h) (ph.h h')
  grow : ∀ {g g' : Gh}, (∀ b o, g b = some o → g' b = some o) → ∀ b o, ph.g g b = some o → ph.g g' b = some o
  mono : ∀ {g g' : Gh}, (∀ b o, g b = some o → g' b = some o) → ph.P g → ph.P g'
noncomputable def ph0 : Ph := ⟨id, id, id, fun _ => True⟩
theorem ph0_ok {base : Heap} : ph0.Ok base := ⟨fun x => x, fun x => x, fun _ x => x, fun x => x, fun x => x, fun x => x, fun _ x => x⟩

inductive OutX where
  | ok (o : Out)
  | ret2 (v : PV)
  | exc (ρ : Rho) (ow : Ow) (cls : Value) (args : Option (List PV))
noncomputable def Wants (ph : Ph) (base : Heap) (n : Nat) (A : Around) (env : Env) (h₀ : Heap) (g₀ g : Gh) (s : Shared) : OutX → (Flow → Shared → Prop) → (Value → Shared → Prop) → Prop
  | .ok out, Q, _ => ∀ fl h' tk g', OutOk base n A env h₀ g₀ g s.heap out fl g' h' → Q fl { s with heap := h', toks := tk }
  | .ret2 v, Q, _ => ∀ pv h' tk g', Step (ph.g g₀) g' (ph.h h₀) h' → ph.P g' → Rep g' v pv → Q (.ret pv) { s with heap := h', toks := tk }
  | .exc ρ ow cls args, _, E => ∀ e h' tk g', ExcOk (ph.b base) n A env (ph.h h₀) (ph.g g₀) (ph.g g) (ph.h s.heap) ρ ow cls args e g' h' → ph.P g' → E (.ref e) { s with heap := h', toks := tk }
theorem Wants.from {ph : Ph} {base : Heap} [hp : ph.Ok base] {n : Nat} {A : Around} {env : Env} {h₀ : Heap} {g₀ g g₁ : Gh} {s : Shared} {h₁ : Heap} {tk : Tok} {x : OutX} {Q : Flow → Shared → Prop} {E : Value → Shared → Prop} (h : Wants ph base n A env h₀ g₀ g s x Q E) (hg : ∀ b o, g b = some o → g₁ b = some o) (hk : KF g g₁ s.heap h₁) :
    Wants ph base n A env h₀ g₀ g₁ { s with heap := h₁, toks := tk } x Q E := by
  cases x with
  | ok out => exact fun fl h' tk' g' ok => h fl h' tk' g' (ok.from hg hk)
  | ret2 v => exact h
  | exc ρ ow cls args => exact fun e h' tk' g' ok hP => h e h' tk' g' (ok.from (hp.grow hg) (hp.kf hk)) hP

structure xs (ph : Ph) (w : World) (base : Heap) (n : Nat) (sc : Scope) (ρ : Rho) (ow : Ow) (st : Stmt) (x : OutX) : Prop where
  raw : ∀ (A : Around) (env : Env) (h₀ : Heap) (g₀ g : Gh) (s : Shared), env.scope = sc → Act A env → GS base n A env h₀ g₀ g ρ ow s.heap → ∀ (Q : Flow → Shared → Prop) (E : Value → Shared → Prop), Wants ph base n A env h₀ g₀ g s x Q E → wpAny (MD w) A (exec st env) Q E s
structure xss (ph : Ph) (w : World) (base : Heap) (n : Nat) (sc : Scope) (ρ : Rho) (ow : Ow) (sts : List Stmt) (x : OutX) : Prop where
  raw : ∀ (A : Around) (env : Env) (h₀ : Heap) (g₀ g : Gh) (s : Shared), env.scope = sc → Act A env → GS base n A env h₀ g₀ g ρ ow s.heap → ∀ (Q : Flow → Shared → Prop) (E : Value → Shared → Prop), Wants ph base n A env h₀ g₀ g s x Q E → wpAny (MD w) A (execs sts env) Q E s
/-- what a raise leaves -/
noncomputable def Raised (ph : Ph) (g : Gh) (s : Shared) (cls : Value) (args : Option (List PV)) (E : Value → Shared → Prop) : Prop :=
  ∀ x h' tk g' tb, (tb = none ∨ tb = some .none) → Step (ph.g g) g' (ph.h s.heap) h' → ph.P g' → Fly (ph.h s.heap) (ph.h s.heap) g' h' x cls args tb → E (.ref x) { s with heap := h', toks := tk }
/-- e raises -/
structure evx (ph : Ph) (w : World) (base : Heap) (n : Nat) (sc : Scope) (ρ : Rho) (e : Expr) (cls : Value) (args : Option (List PV)) : Prop where
  raw : ∀ (A : Around) (env : Env) (g : Gh) (s : Shared), env.scope = sc → Good base n A env g ρ s.heap → ∀ (Q E : Value → Shared → Prop), Raised ph g s cls args E → wpAny (MD w) A (eval e env) Q E s
structure tvx (ph : Ph) (w : World) (base : Heap) (n : Nat) (sc : Scope) (ρ : Rho) (e : Expr) (cls : Value) (args : Option (List PV)) : Prop where
  raw : ∀ (A : Around) (env : Env) (g : Gh) (s : Shared), env.scope = sc → Good base n A env g ρ s.heap → ∀ (Q : Bool → Shared → Prop) (E : Value → Shared → Prop), Raised ph g s cls args E → wpAny (MD w) A (isTrue e env (eval e env)) Q E s
/-- a call raises -/
noncomputable def CONR (ph : Ph) (w : World) (base : Heap) (n : Nat) (f : Value) (as : List PV) (cls : Value) (args : Option (List PV)) : Prop := ∀ (A : Around) (g : Gh) (s : Shared) (xs : List Value), Ok base n A g s.heap → RepL g as xs → ∀ (Q E : Value → Shared → Prop), Raised ph g s cls args E → wpAny (MD w) A (call f xs) Q E s
noncomputable def CGR (GL : Str → Option Value) (ph : Ph) (w : World) (base : Heap) (n : Nat) (name : Str) (as : List PV) (cls : Value) (args : Option (List PV)) : Prop := ∃ f, GL name = some f ∧ Calls base f ∧ CONR ph w base n f as cls args

theorem Fly.less {q q' h : Heap} {g : Gh} {e : Addr} {cls : Value} {args : Option (List PV)} {tb : Option Value} (y : Fly q q g h e cls args tb) (k : Soft q' q) : Fly q' q' g h e cls args tb := y.out (fun _ => k.none) fun _ => k.none
theorem Raised.from {ph : Ph} {base : Heap} [hp : ph.Ok base] {g g₁ : Gh} {s : Shared} {h₁ : Heap} {tk : Tok} {cls : Value} {args : Option (List PV)} {E : Value → Shared → Prop} (h : Raised ph g s cls args E) (st : Step g g₁ s.heap h₁) : Raised ph g₁ { s with heap := h₁, toks := tk } cls args E :=
  fun x h' tk' g' tb ht st' hP y => h x h' tk' g' tb ht ((hp.step st).trans st') hP (y.less (hp.step st).ext)

section
variable {ph : Ph} {w : World} {base : Heap} [hp : ph.Ok base] {n : Nat} {sc : Scope} {ρ ρ' : Rho} {ow ow' : Ow} {GL : Str → Option Value} {cls : Value} {args : Option (List PV)}

omit hp in
theorem xs.of {st : Stmt} {out : Out} (h : sx w base n sc ρ ow st out) : xs ph w base n sc ρ ow st (.ok out) := ⟨fun A env h₀ g₀ g s hs _ G Q E hq => h.raw A env h₀ g₀ g s hs G Q E hq⟩
omit hp in
theorem xss.of {sts : List Stmt} {out : Out} (h : sxs w base n sc ρ ow sts out) : xss ph w base n sc ρ ow sts (.ok out) := ⟨fun A env h₀ g₀ g s hs _ G Q E hq => h.raw A env h₀ g₀ g s hs G Q E hq⟩
theorem xss.cons {st : Stmt} {rest : List Stmt} {x : OutX} (h : xs ph w base n sc ρ ow st (.ok (.next ρ' ow'))) (hr : xss ph w base n sc ρ' ow' rest x) : xss ph w base n sc ρ ow (st :: rest) x :=
  ⟨fun A env h₀ g₀ g s hs ha G Q E hq => wpAny_execs_cons (h.raw A env h₀ g₀ g s hs ha G _ _ fun fl h' tk g' ok => by
    obtain ⟨rfl, G', hg, hk⟩ := ok
    exact hr.raw A env h₀ g₀ g' _ hs ha G' _ _ (hq.from hg hk))⟩
omit hp in
theorem xss.ret {st : Stmt} {rest : List Stmt} {v : PV} (h : xs ph w base n sc ρ ow st (.ok (.ret v))) : xss ph w base n sc ρ ow (st :: rest) (.ok (.ret v)) :=
  ⟨fun A env h₀ g₀ g s hs ha G Q E hq => wpAny_execs_cons (h.raw A env h₀ g₀ g s hs ha G _ _ fun fl h' tk g' ok => by
    obtain ⟨pv, rfl, a, b⟩ := ok
    exact hq _ h' tk g' ⟨pv, rfl, a, b⟩)⟩
omit hp in
theorem xss.ret2 {st : Stmt} {rest : List Stmt} {v : PV} (h : xs ph w base n sc ρ ow st (.ret2 v)) : xss ph w base n sc ρ ow (st :: rest) (.ret2 v) :=
  ⟨fun A env h₀ g₀ g s hs ha G Q E hq => wpAny_execs_cons (h.raw A env h₀ g₀ g s hs ha G _ _ fun pv h' tk g' a hP b => hq _ h' tk g' a hP b)⟩
omit hp in
theorem xss.exc {st : Stmt} {rest : List Stmt} (h : xs ph w base n sc ρ ow st (.exc ρ' ow' cls args)) : xss ph w base n sc ρ ow (st :: rest) (.exc ρ' ow' cls args) :=
  ⟨fun A env h₀ g₀ g s hs ha G Q E hq => wpAny_execs_cons (h.raw A env h₀ g₀ g s hs ha G _ _ hq)⟩
theorem xss.one {st : Stmt} {x : OutX} (h : xs ph w base n sc ρ ow st x) : xss ph w base n sc ρ ow [st] x := by
  cases x with
  | exc ρ' ow' cls args => exact xss.exc h
  | ret2 v => exact xss.ret2 h
  | ok out =>
    cases out with
    | next ρ' ow' => exact xss.cons h (xss.of sxs.nil)
    | ret v => exact xss.ret h
    | brk ρ' ow' => exact ⟨fun A env h₀ g₀ g s hs ha G Q E hq => wpAny_execs_cons (h.raw A env h₀ g₀ g s hs ha G _ _ fun fl h' tk g' ok => by
        obtain ⟨rfl, a, b, c⟩ := ok
        exact hq _ h' tk g' ⟨rfl, a, b, c⟩)⟩
theorem xs.ite {test : Expr} {body orelse : List Stmt} {pos : Pos} {b : Bool} {x : OutX} (ht : tv w base n sc ρ test b) (h1 : b = true → xss ph w base n sc ρ ow body x) (h2 : b = false → xss ph w base n sc ρ ow orelse x) : xs ph w base n sc ρ ow (.If test body orelse pos) x :=
  ⟨fun A env h₀ g₀ g s hs ha G Q E hq => wpAny_If (ht.raw A env g s hs G.good _ _ fun h' tk g' st => by
    cases b with
    | true => exact (h1 rfl).raw A env h₀ g₀ g' _ hs ha (G.step st) _ _ (hq.from st.grow (KF.of st))
    | false => exact (h2 rfl).raw A env h₀ g₀ g' _ hs ha (G.step st) _ _ (hq.from st.grow (KF.of st)))⟩

omit hp in
theorem ExcOk.of {A : Around} {env : Env} {h₀ : Heap} {g₀ g g' : Gh} {h h' : Heap} {e : Addr} {tb : Option Value} (G : GS base n A env h₀ g₀ g ρ ow h) (st : Step g g' h h') (ht : tb = none ∨ tb = some .none) (y : Fly h h g' h' e cls args tb) : ExcOk base n A env h₀ g₀ g h ρ ow cls args e g' h' :=
  ⟨G.step st, st.grow, KF.of st, tb, ht.elim .inl fun z => .inr (.inl z), y.out (fun _ => G.keep.none) fun _ => id⟩
theorem xs.retX {e : Expr} {pos : Pos} (h : evx ph w base n sc ρ e cls args) : xs ph w base n sc ρ ow (.Return (some e) pos) (.exc ρ ow cls args) :=
  ⟨fun A env h₀ g₀ g s hs ha G Q E hq => wpAny_Return_some (h.raw A env g s hs G.good _ _ fun x h' tk g' tb ht st hP y => hq x h' tk g' (.of (hp.gs G) st ht y) hP)⟩
theorem xs.assignX {x : Str} {p pos : Pos} {value : Expr} (h : evx ph w base n sc ρ value cls args) (hsw : ∀ env, env.scope = sc → swapsWith value (some (.Name x p)) pos.line env = pure false := by intros; rfl) : xs ph w base n sc ρ ow (.Assign [.Name x p] value pos) (.exc ρ ow cls args) :=
  ⟨fun A env h₀ g₀ g s hs ha G Q E hq => wpAny_Assign_Name (h.raw A env g s hs G.good _ _ fun x h' tk g' tb ht st hP y => hq x h' tk g' (.of (hp.gs G) st ht y) hP) (hsw env hs)⟩
theorem evx.call {x : Str} {p pos : Pos} {es : List Expr} {f : Value} {vs : List PV} (hf : ev w base n sc ρ (.Name x p) (.ref f)) (hk : Calls base f) (ha : evs w base n sc ρ es vs) (hc : CONR ph w base n f vs cls args)
    (hpl : ∀ env, (backTo pos (starEach es env)).any (·.1) = false := by intros; rfl) (hne : ∀ env, ∃ x r, backTo pos (starEach es env) = x :: r := by intros; exact ⟨_, _, rfl⟩) : evx ph w base n sc ρ (.Call (.Name x p) es [] pos) cls args :=
  ⟨fun A env g s hs G Q E hq => by
    show wpAny _ _ (do callWith pos (← eval (.Name x p) env) [] (backTo pos (starEach es env)) (backToKw pos (keywordEach [] env))) Q E s
    refine wpAny_bind (hf.raw A env g s hs G _ _ fun fv h₁ tk₁ g₁ st₁ rf => ?_)
    obtain rfl := unR rf
    exact callWith_vals hk hs (G.step st₁) ha.raw (hpl env) (hne env) fun xs h₂ tk₂ g₂ st₂ rx => hc A g₂ _ xs ((G.step st₁).step st₂).ok rx _ _ (hq.from (base := base) (st₁.trans st₂))⟩
theorem evx.cg (W : Wd GL base) {x : Str} {p pos : Pos} {es : List Expr} {vs : List PV} (ha : evs w base n sc ρ es vs) (hc : CGR GL ph w base n x vs cls args) (hx : sc.names.lookup x = some .globalImplicit := by rfl) (hd : (x == ("__debug__" : Str)) = false := by decide)
    (hpl : ∀ env, (backTo pos (starEach es env)).any (·.1) = false := by intros; rfl) (hne : ∀ env, ∃ x r, backTo pos (starEach es env) = x :: r := by intros; exact ⟨_, _, rfl⟩) : evx ph w base n sc ρ (.Call (.Name x p) es [] pos) cls args := by
  obtain ⟨f, h1, h2, h3⟩ := hc
  exact evx.call (ev.glob W h1 hx hd) h2 ha h3 hpl hne
omit hp in
theorem tvx.cmp {l r : Expr} {op : CmpOp} {pos : Pos} (hl : evx ph w base n sc ρ l cls args) (hm : behindInMarks op r = false := by with_unfolding_all rfl) : tvx ph w base n sc ρ (.Compare l [op] [r] pos) cls args :=
  ⟨fun A env g s hs G Q E hq => wpAny_isTrue_Compare1 (hl.raw A env g s hs G _ _ hq) hm⟩
end

section
variable {w : World} {base : Heap} {n : Nat} {sc : Scope} {ρ ρ' : Rho} {ow ow' : Ow} {GL : Str → Option Value} {cls : Value} {args : Option (List PV)}
/-- the frames from the activation's own on -/
theorem GS.frs {A : Around} {env : Env} {h₀ : Heap} {g₀ g : Gh} {h : Heap} (G : GS base n A env h₀ g₀ g ρ ow h) (ha : Act A env) : ∃ outer, A.frames = some (env :: outer) ∧ FrOk base g h (env :: outer) := by
  obtain ⟨o, e⟩ := ha.top
  obtain ⟨l, e1, e2⟩ := G.good.ok.frames
  rw [e] at e1; cases e1
  exact ⟨o, e, e2⟩
theorem ExcOk.touch {A : Around} {env : Env} {h₀ r : Heap} {g₀ g g' : Gh} {h' h'' : Heap} {e : Addr} {tb : Option Value} (x : ExcOk base n A env h₀ g₀ g r ρ ow cls args e g' h') (sx : StepX h₀ r g' h' h'') (ht : TbF env tb) (y : Fly h₀ r g' h'' e cls args tb) : ExcOk base n A env h₀ g₀ g r ρ ow cls args e g' h'' :=
  ⟨x.gs.touch sx, x.grow, x.kf.touch sx, tb, ht, y⟩
/-- a place where the exception is noted -/
theorem ExcOk.note {A : Around} {env : Env} {h₀ r : Heap} {g₀ g g' : Gh} {s : Shared} {e : Addr} {Q : Unit → Shared → Prop} {E : Value → Shared → Prop} (ha : Act A env) (x : ExcOk base n A env h₀ g₀ g r ρ ow cls args e g' s.heap) (B : Around) (hB : B.frames = A.frames)
    (hq : ∀ h', ExcOk base n A env h₀ g₀ g r ρ ow cls args e g' h' → Fly h₀ r g' h' e cls args (some (rawInt env.locals)) → Q () { s with heap := h' }) : wpAny (MD w) B (noteFrame (.ref e) env) Q E s := by
  obtain ⟨outer, hfr, hF⟩ := x.gs.frs ha
  obtain ⟨tb, ht, y⟩ := x.fly
  exact note_go (hB.trans hfr) hF ha.frame x.gs.good.ok.sub (fun b => x.gs.keep.none) (fun b o vs e f => (x.kf b o vs e f).1) y ht fun h' sx y' => hq h' (x.touch sx (.inr (.inr rfl)) y') y'
theorem ExcOk.flight {A : Around} {env : Env} {h₀ r : Heap} {g₀ g g' : Gh} {s : Shared} {e : Addr} {fl : Value} {fr : Option Addr} {Q : Unit → Shared → Prop} {E : Value → Shared → Prop} (x : ExcOk base n A env h₀ g₀ g r ρ ow cls args e g' s.heap) (y : Fly h₀ r g' s.heap e cls args (some fl)) (hfr : fr = none ∨ fr = some env.locals) (B : Around)
    (hq : ∀ h', ExcOk base n A env h₀ g₀ g r ρ ow cls args e g' h' → Fly h₀ r g' h' e cls args (some (fr.elim .none fun f => rawInt f)) → Q () { s with heap := h' }) : wpAny (MD w) B (setFlight (.ref e) fr) Q E s :=
  by
  rcases hfr with rfl | rfl
  · exact flight_go x.gs.good.ok.sub y fun h' sx y' => hq h' (x.touch sx (tb := some .none) (.inr (.inl rfl)) y') y'
  · exact flight_go x.gs.good.ok.sub y fun h' sx y' => hq h' (x.touch sx (tb := some (rawInt env.locals)) (.inr (.inr rfl)) y') y'

theorem enterA {A : Around} {f : Addr} {fd : FuncData} {s : Shared} {l : List Env} (h : A.frames = some l) : Act (A.deeper (callEnvC fd s.heap.objs.size f)) (callEnvC fd s.heap.objs.size f) := ⟨⟨l, Around.frames_deeper h⟩, rfl⟩

end

section
variable {ph : Ph} {w : World} {base : Heap} [hp : ph.Ok base] {n : Nat} {sc : Scope} {ρ ρ' : Rho} {ow ow' : Ow} {GL : Str → Option Value} {cls : Value} {args : Option (List PV)}
omit hp in
/-- a def that may raise, entered -/
theorem CONR.fn {fd : FuncData} {f : Addr} {body : List Stmt} {names : List Str} {as : List PV} (W : Wd GL base) (F : Fn base f fd body) (hok : fnOk fd.scope names = true) (hlen : as.length = names.length)
    (hb : ∀ (s : Shared) (xs : List Value), base.StaysIn s.heap → xs.length = names.length → BindsTo s fd ⟨xs, []⟩ (names.zip xs))
    (h : xss ph w base n fd.scope (names.zip as) none body (.exc ρ' ow' cls args)) : CONR ph w base (n + 1) (.ref f) as cls args := fun A g s xs ok rx Q E hq => by
  have hl : xs.length = names.length := rx.length.trans hlen
  refine enter (a := ⟨xs, []⟩) W F hok ok hl rx (hb s xs ok.stays hl) fun s₁ tk h₁ e G => ?_
  obtain ⟨l, hf, _⟩ := ok.frames
  have ha : Act (A.deeper (callEnvC fd s.heap.objs.size f)) (callEnvC fd s.heap.objs.size f) := enterA hf
  refine h.raw _ _ _ _ g s₁ rfl ha G _ _ fun x h' tk' g' hx hP => ?_
  unfold leaving
  refine wpAny_bind (hx.note ha _ rfl fun h₂ hx₂ y₂ => hx₂.flight y₂ (.inl rfl) _ fun h₃ hx₃ y₃ => ?_)
  subst e
  exact hq x h₃ tk' g' (some .none) (.inr rfl) ⟨hx₃.gs.keep, hx₃.gs.grow, hx₃.gs.new, hx₃.gs.good.ok.sub⟩ hP y₃.loosen
omit hp in
theorem CONS.fn {fd : FuncData} {f : Addr} {body : List Stmt} {names : List Str} {as : List PV} {r : PV} (W : Wd GL base) (F : Fn base f fd body) (hok : fnOk fd.scope names = true) (hlen : as.length = names.length)
    (hb : ∀ (s : Shared) (xs : List Value), base.StaysIn s.heap → xs.length = names.length → BindsTo s fd ⟨xs, []⟩ (names.zip xs))
    (h : xss ph w base n fd.scope (names.zip as) none body (.ok (.ret r))) : CON w base (n + 1) (.ref f) as r := fun A g s xs ok rx Q E hq => by
  have hl : xs.length = names.length := rx.length.trans hlen
  refine enter (a := ⟨xs, []⟩) W F hok ok hl rx (hb s xs ok.stays hl) fun s₁ tk h₁ e G => ?_
  obtain ⟨l, hf, _⟩ := ok.frames
  refine h.raw _ _ _ _ g s₁ rfl (enterA hf) G _ _ fun fl h' tk' g' hout => ?_
  obtain ⟨pv, rfl, st, rv⟩ := hout
  subst e
  exact hq pv h' tk' g' st rv
/-- a call that ends in the other phase -/
noncomputable def CON2 (ph : Ph) (w : World) (base : Heap) (n : Nat) (f : Value) (as : List PV) (r : PV) : Prop := ∀ (A : Around) (g : Gh) (s : Shared) (xs : List Value), Ok base n A g s.heap → RepL g as xs → ∀ (Q E : Value → Shared → Prop), (∀ pv h' tk g', Step (ph.g g) g' (ph.h s.heap) h' → ph.P g' → Rep g' r pv → Q pv { s with heap := h', toks := tk }) → wpAny (MD w) A (call f xs) Q E s
omit hp in
theorem CON2.fn {fd : FuncData} {f : Addr} {body : List Stmt} {names : List Str} {as : List PV} {r : PV} (W : Wd GL base) (F : Fn base f fd body) (hok : fnOk fd.scope names = true) (hlen : as.length = names.length)
    (hb : ∀ (s : Shared) (xs : List Value), base.StaysIn s.heap → xs.length = names.length → BindsTo s fd ⟨xs, []⟩ (names.zip xs))
    (h : xss ph w base n fd.scope (names.zip as) none body (.ret2 r)) : CON2 ph w base (n + 1) (.ref f) as r := fun A g s xs ok rx Q E hq => by
  have hl : xs.length = names.length := rx.length.trans hlen
  refine enter (a := ⟨xs, []⟩) W F hok ok hl rx (hb s xs ok.stays hl) fun s₁ tk h₁ e G => ?_
  obtain ⟨l, hf, _⟩ := ok.frames
  refine h.raw _ _ _ _ g s₁ rfl (enterA hf) G _ _ fun pv h' tk' g' st hP rv => ?_
  subst e
  exact hq pv h' tk' g' st hP rv
end
end Mine
end
section
open PySem PySem.W PyProof.Rows PySem.Calls PySem.SeqAt
set_option maxRecDepth 100000
namespace Mine

/-- a while's run, of at most k turns -/
inductive wl (ph : Ph) (w : World) (base : Heap) (n : Nat) (sc : Scope) (test : Expr) (body orelse : List Stmt) : Nat → Rho → Ow → OutX → Prop
  | stop {k ρ ow x} : tv w base n sc ρ test false → xss ph w base n sc ρ ow orelse x → wl ph w base n sc test body orelse k ρ ow x
  | next {k ρ ow ρ₁ ow₁ x} : tv w base n sc ρ test true → xss ph w base n sc ρ ow body (.ok (.next ρ₁ ow₁)) → wl ph w base n sc test body orelse k ρ₁ ow₁ x → wl ph w base n sc test body orelse (k + 1) ρ ow x
  | ret {k ρ ow v} : tv w base n sc ρ test true → xss ph w base n sc ρ ow body (.ok (.ret v)) → wl ph w base n sc test body orelse k ρ ow (.ok (.ret v))
  | ret2 {k ρ ow v} : tv w base n sc ρ test true → xss ph w base n sc ρ ow body (.ret2 v) → wl ph w base n sc test body orelse k ρ ow (.ret2 v)
  | raise {k ρ ow ρ' ow' cls args} : tv w base n sc ρ test true → xss ph w base n sc ρ ow body (.exc ρ' ow' cls args) → wl ph w base n sc test body orelse k ρ ow (.exc ρ' ow' cls args)
  | tst {k ρ ow cls args} : tvx ph w base n sc ρ test cls args → wl ph w base n sc test body orelse k ρ ow (.exc ρ ow cls args)

/-- a suite that runs while an exception is handled -/
structure hss (w : World) (base : Heap) (n : Nat) (sc : Scope) (ρ : Rho) (ow : Ow) (sts : List Stmt) (out : Out) : Prop where
  raw : ∀ (A B : Around) (env : Env) (h₀ : Heap) (g₀ g : Gh) (s : Shared), env.scope = sc → GS base n A env h₀ g₀ g ρ ow s.heap → ∀ (Q : Flow → Shared → Prop) (E : Value → Shared → Prop),
    (∀ fl h' tk g', OutOk base n A env h₀ g₀ g s.heap out fl g' h' → Q fl { s with heap := h', toks := tk }) → wpAny (MD w) B (execs sts env) Q E s

section
variable {w : World} {base : Heap} {n : Nat} {sc : Scope} {ρ ρ' : Rho} {ow ow' : Ow} {GL : Str → Option Value} {cls : Value} {args : Option (List PV)}

theorem ExcOk.back {A : Around} {env : Env} {h₀ r : Heap} {g₀ g g' : Gh} {s : Shared} {e : Addr} {E : Value → Shared → Prop} (ha : Act A env) (x : ExcOk base n A env h₀ g₀ g r ρ ow cls args e g' s.heap) (B : Around) (hB : B.frames = A.frames)
    (hq : ∀ h', ExcOk base n A env h₀ g₀ g r ρ ow cls args e g' h' → E (.ref e) { s with heap := h' }) : notedBy (MD w) B env (cameBackBy (MD w) A env E) (.ref e) s := by
  unfold notedBy
  refine x.note ha B hB fun h₁ x₁ y₁ => ?_
  unfold cameBackBy
  obtain ⟨_, oe, vs, t, he, hc, hd, h1, hrep, T, oT, ts, e1, e2, e3, e4, e5, e6⟩ := id y₁
  refine wpAny_bind (wpAny_field he hd e1 ?_)
  rw [if_neg (show ¬ ((Value.ref T == Value.none) = true) from by simp)]
  have key := x₁.flight (s := { s with heap := h₁ }) (Q := fun _ s' => E (.ref e) s') (E := E) (w := w) y₁ (fr := env.frame) (.inr ha.frame) A fun h₂ x₂ _ => hq h₂ x₂
  exact key

end
section
variable {ph : Ph} {w : World} {base : Heap} [hp : ph.Ok base] {n : Nat} {sc : Scope} {ρ ρ' : Rho} {ow ow' : Ow} {GL : Str → Option Value} {cls : Value} {args : Option (List PV)}
theorem xs.while {test : Expr} {body orelse : List Stmt} {pos : Pos} {x : OutX} (k : Nat) (h : wl ph w base n sc test body orelse k ρ ow x) : xs ph w base n sc ρ ow (.While test body orelse pos) x :=
  ⟨fun A env h₀ g₀ g s hs ha G Q E hq => by
    refine wpAny_While (codeAny_whileLoop (fun m s' => ∃ h tk g' ρ ow, s' = { s with heap := h, toks := tk } ∧ wl ph w base n sc test body orelse m ρ ow x ∧ GS base n A env h₀ g₀ g' ρ ow h ∧ (∀ b o, g b = some o → g' b = some o) ∧ KF g g' s.heap h) ?_ k ⟨s.heap, s.toks, g, ρ, ow, rfl, h, G, fun _ _ e => e, KF.refl _ _⟩)
    rintro m s' ⟨h₁, tk, g₁, ρ₁, ow₁, rfl, hw, G₁, gr, kf⟩
    have herr : ∀ {ρ' ow' cls args h₂ g₂ tk₂} {e : Addr}, Wants ph base n A env h₀ g₀ g s (.exc ρ' ow' cls args) Q E → ExcOk (ph.b base) n A env (ph.h h₀) (ph.g g₀) (ph.g g) (ph.h s.heap) ρ' ow' cls args e g₂ h₂ → ph.P g₂ → notedBy (MD w) A env (cameBackBy (MD w) A env E) (.ref e) { s with heap := h₂, toks := tk₂ } := fun {ρ' ow' cls args h₂ g₂ tk₂ e} hw hx hP =>
      ExcOk.back (s := { s with heap := h₂, toks := tk₂ }) ha hx A rfl fun h₃ x₃ => hw e h₃ tk₂ g₂ x₃ hP
    cases hw with
    | stop ht ho =>
      refine ht.raw A env g₁ _ hs G₁.good _ _ fun h₂ tk₂ g₂ st => ?_
      show wpAny _ _ (execs orelse env) _ _ _
      refine ho.raw A env h₀ g₀ g₂ { s with heap := h₂, toks := tk₂ } hs ha (G₁.step st) _ _ ?_
      have hq' := (hq.from gr kf (tk := tk)).from (tk := tk₂) st.grow (KF.of st)
      cases x with
      | ok out => exact hq'
      | ret2 v => exact hq'
      | exc ρ' ow' cls args => exact fun e h' tk' g' hx hP => herr hq ((hx.from (hp.grow st.grow) (hp.kf (KF.of st))).from (hp.grow gr) (hp.kf kf)) hP
    | next ht hb hr =>
      refine ht.raw A env g₁ _ hs G₁.good _ _ fun h₂ tk₂ g₂ st => ?_
      show wpAny _ _ (execs body env) _ _ _
      refine hb.raw A env h₀ g₀ g₂ { s with heap := h₂, toks := tk₂ } hs ha (G₁.step st) _ _ fun fl h₃ tk₃ g₃ ok => ?_
      obtain ⟨rfl, G₃, gr₃, kf₃⟩ := ok
      exact ⟨_, Nat.lt_succ_self _, h₃, tk₃, g₃, _, _, rfl, hr, G₃, fun b o e => gr₃ b o (st.grow b o (gr b o e)), kf.trans ((KF.of st).trans kf₃)⟩
    | ret ht hb =>
      refine ht.raw A env g₁ _ hs G₁.good _ _ fun h₂ tk₂ g₂ st => ?_
      show wpAny _ _ (execs body env) _ _ _
      refine hb.raw A env h₀ g₀ g₂ { s with heap := h₂, toks := tk₂ } hs ha (G₁.step st) _ _ fun fl h₃ tk₃ g₃ ok => ?_
      obtain ⟨pv, rfl, a, b⟩ := ok
      exact hq _ h₃ tk₃ g₃ ⟨pv, rfl, a, b⟩
    | ret2 ht hb =>
      refine ht.raw A env g₁ _ hs G₁.good _ _ fun h₂ tk₂ g₂ st => ?_
      show wpAny _ _ (execs body env) _ _ _
      exact hb.raw A env h₀ g₀ g₂ { s with heap := h₂, toks := tk₂ } hs ha (G₁.step st) _ _ fun pv h₃ tk₃ g₃ a hP b => hq _ h₃ tk₃ g₃ a hP b
    | raise ht hb =>
      refine ht.raw A env g₁ _ hs G₁.good _ _ fun h₂ tk₂ g₂ st => ?_
      show wpAny _ _ (execs body env) _ _ _
      exact hb.raw A env h₀ g₀ g₂ { s with heap := h₂, toks := tk₂ } hs ha (G₁.step st) _ _ fun e h₃ tk₃ g₃ hx hP => herr hq ((hx.from (hp.grow st.grow) (hp.kf (KF.of st))).from (hp.grow gr) (hp.kf kf)) hP
    | tst ht =>
      exact ht.raw A env g₁ _ hs G₁.good _ _ fun e h₂ tk₂ g₂ tb htb st hP y => herr hq ((ExcOk.of (hp.gs G₁) st htb y).from (hp.grow gr) (hp.kf kf)) hP⟩
end
section
variable {ph : Ph} {w : World} {base : Heap} {n : Nat} {sc : Scope} {ρ ρ' : Rho} {ow ow' : Ow} {GL : Str → Option Value} {cls : Value} {args : Option (List PV)}
theorem hss.pass {pos : Pos} : hss w base n sc ρ ow [.Pass pos] (.next ρ ow) :=
  ⟨fun A B env h₀ g₀ g s hs G Q E hq => wpAny_execs_cons (wpAny_Pass (wpAny_execs_nil (hq _ s.heap s.toks g ⟨rfl, G, fun _ _ e => e, KF.refl _ _⟩)))⟩
theorem hss.none {x : Str} {p pos cp : Pos} {k : Nat} (hx : ownName sc ow x = true) : hss w base n sc ρ ow [.Assign [.Name x p] (.Constant .none k cp) pos] (.next ((x, .none) :: ρ) ow) :=
  ⟨fun A B env h₀ g₀ g s hs G Q E hq => wpAny_execs_cons (wpAny_Assign_Name (wpAny_Constant_none (by
    have hx' : ownName env.scope ow x = true := by rw [hs]; exact hx
    exact G.bind hx' repN fun h'' tk' G'' kf => wpAny_execs_nil (hq _ h'' tk' g ⟨rfl, G'', fun _ _ e => e, kf⟩))) rfl)⟩

theorem Fly.typeIs {h₀ r : Heap} {g : Gh} {s : Shared} {e : Addr} {T : String} {tb : Option Value} (y : Fly h₀ r g s.heap e (.type T) args tb) : s.TypeIs (.ref e) T := let ⟨oe, _, _, he, hc, _⟩ := y.obj; ⟨oe, he, hc⟩

/-- try: what goes well -/
noncomputable def OutX.fine : OutX → Bool
  | .exc .. => false
  | _ => true
theorem xs.tryOk {body : List Stmt} {h₁ : ExceptHandler} {pos : Pos} {x : OutX} (h : xss ph w base n sc ρ ow body x) (hx : x.fine = true := by rfl) : xs ph w base n sc ρ ow (.Try body [h₁] [] [] pos) x :=
  ⟨fun A env h₀ g₀ g s hs ha G Q E hq => wpAny_Try_except (h.raw A env h₀ g₀ g s hs ha G _ _ (by
    cases x with
    | exc ρ' ow' cls args => cases hx
    | ret2 v => exact fun pv h' tk g' a hP b => hq pv h' tk g' a hP b
    | ok out =>
        intro fl h' tk g' ok
        have := hq fl h' tk g' ok
        cases out with
        | next ρ' ow' => obtain ⟨rfl, _⟩ := ok; exact wpAny_execs_nil this
        | brk ρ' ow' => obtain ⟨rfl, _⟩ := ok; exact this
        | ret v => obtain ⟨pv, rfl, _⟩ := ok; exact this))⟩
/-- try .. except IndexError -/
theorem xs.tryIdx (W : Wd GL base) (hI : GL "IndexError" = some (.type "IndexError")) {body : List Stmt} {b₀ : Stmt} {suite : List Stmt} {p hp pos : Pos} {out : Out} (h : xss ph0 w base n sc ρ ow body (.exc ρ' ow' (.type "IndexError") args)) (hh : hss w base n sc ρ' ow' (b₀ :: suite) out)
    (hx : sc.names.lookup ("IndexError" : Str) = some .globalImplicit := by rfl) : xs ph w base n sc ρ ow (.Try body [.ExceptHandler (some (.Name "IndexError" p)) none (b₀ :: suite) hp] [] [] pos) (.ok out) :=
  ⟨fun A env h₀ g₀ g s hs ha G Q E hq => wpAny_Try_except (h.raw A env h₀ g₀ g s hs ha G _ _ fun e h₁ tk g₁ x _ => by
    refine x.note ha A rfl fun h₂ x₂ y₂ => ?_
    refine x₂.flight (s := { s with heap := h₂, toks := tk }) y₂ (.inl rfl) A fun h₃ x₃ y₃ => ?_
    refine wpAny_handleBy_builtin (X := "IndexError") (T := "IndexError") (b := true) F.isExc_IndexError F.notTuple_IndexError F.self_IndexError ?_
    subst hs
    refine Name_function_global G.good.envok.kind hx (W.load _ _ _ _ _ env "IndexError" _ hI x₃.gs.good.ok.stays G.good.envok.globals G.good.envok.builtins ?_) (by decide)
    refine ⟨rfl, y₃.typeIs, ?_⟩
    rw [if_pos rfl]
    refine x₃.flight (s := { s with heap := h₃, toks := tk }) y₃ (.inl rfl) _ fun h₄ x₄ y₄ => ?_
    exact hh.raw A _ env h₀ g₀ g₁ { s with heap := h₄, toks := tk } rfl x₄.gs _ _ fun fl h₅ tk₅ g₅ ok => hq fl h₅ tk₅ g₅ (ok.from x₄.grow x₄.kf))⟩

/-- s[i] behind the end -/
theorem evx.past {value slice : Expr} {pos : Pos} {x : Str} {k : Int} (ho : ev w base n sc ρ value (.str x)) (hi : ev w base n sc ρ slice (.int k)) (h0 : 0 ≤ k) (hk : k < 2 ^ 63) (hr : x.length ≤ k.toNat) (hs : ∀ a b, subscripted slice false a b = operate [a, b] (getItem a b) := by intros; rfl) :
    evx ph0 w base n sc ρ (.Subscript value slice pos) (.type "IndexError") none :=
  ⟨fun A env g s he G Q E hq => Subscript_ (ho.raw A env g s he G _ _ fun x' h₁ tk₁ g₁ st₁ rx => hi.raw A env g₁ _ he (G.step st₁) _ _ fun y h₂ tk₂ g₂ st₂ ry => by
    obtain ⟨t, rfl⟩ := unS rx
    obtain ⟨u, rfl⟩ := unI ry
    have st := st₁.trans st₂
    have G₂ := G.step st
    refine tail_any (typeIs_str _ x t) slot_str_getitem.lookup ?_ (hs _ _)
    refine getItem_slot (typeIs_str _ x t) (by decide) slot_str_getitem (wpAny_call_entry slot_str_getitem (typeIs_str _ x t) entry_str_getitem ?_ (args_str_getitem _ _))
    have hr1 : (decide (k < -(2 ^ 63 : Int)) || decide (k ≥ 2 ^ 63)) = false := by simp; omega
    have hr2 : (seqIndex? k x.length).bind (x.cps[·]?) = none := by
      have : seqIndex? k x.length = none := by
        unfold seqIndex?
        simp only [show ¬ k < 0 by omega, if_false]
        simp
        omega
      rw [this]; rfl
    have key : ∀ h' tk e, Heap.NewExc h₂ h' e "IndexError" → E (.ref e) { s with heap := h', toks := tk } := fun h' tk e ne => by
      obtain ⟨ob, t', e1, e2, e3⟩ := ne.there
      have nn : s.heap.get? e = none := st.ext.none ne.new
      exact hq e h' tk g₂ none (.inl rfl) (st.trans (Step.of_ext st.sub ne.keeps)) trivial ⟨⟨nn, sub_none st.sub ne.new, fun o vs z => by have z' : s.heap.get? e = some o := z; rw [nn] at z'; cases z'⟩, ob, _, t', e1, e2, e3, rfl, (fun l z => nomatch z), rfl⟩
    show wpAny _ _ (if (decide (k < -(2 ^ 63 : Int)) || decide (k ≥ 2 ^ 63)) = true then _ else
          match (seqIndex? k x.length).bind (x.cps[·]?) with
          | some c => retStr ⟨#[c]⟩
          | none => _) _ _ _
    rw [hr1, hr2]
    first
      | exact wpAny_bind (wpAny_rule (by exact_raiseError plainExc_IndexError G₂.ok.handled key))
      | exact wpAny_bind (wpAny_rule (wpAny_bind (by exact_raiseError plainExc_IndexError G₂.ok.handled key))))⟩
end
end Mine
end
section
open PySem PySem.W PyProof.Rows PySem.Calls PySem.SeqAt
set_option maxRecDepth 100000
namespace Mine

theorem slot_fro_contains : Slot "frozenset" "__contains__" "frozenset.__contains__" :=
  .of (owner := "frozenset") (n := "__contains__") (by rw [typeLookup_type, builtinLookup_eq_fast]; kernel_rfl) (by decide +kernel) (by decide +kernel) (by decide +kernel)
    (by first | exact .inl (by decide +kernel) | exact .inr (by decide +kernel)) (by rw [isSubtype_type]; kernel_rfl)
theorem owner_fro : Manifest.owners.lookup (String.ofList ['t', 'e', 's', 'n', 'e', 'z', 'o', 'r', 'f'].reverse) = some Manifest.sig_frozenset := by kernel_rfl
theorem args_fro_contains (a b : Value) : argsOk "frozenset.__contains__" ⟨[a, b], []⟩ := by
  unfold argsOk; rw [signature?_of (id := "frozenset.__contains__") (n := ['_', '_', 's', 'n', 'i', 'a', 't', 'n', 'o', 'c', '_', '_']) (o := ['t', 'e', 's', 'n', 'e', 'z', 'o', 'r', 'f']) (by kernel_rfl) owner_fro]; kernel_rfl
theorem entry_fro_contains : entryFor table "frozenset.__contains__" = some Builtin.«frozenset.__contains__» := entryFor_of_tree (by kernel_rfl)
theorem plainAttrs_fro : PlainAttrs "frozenset" :=
  ⟨⟨"object.__getattribute__", by rw [typeLookup_type, builtinLookup_eq_fast]; kernel_rfl, by decide +kernel⟩, by rw [typeLookup_type, builtinLookup_eq_fast]; kernel_rfl⟩
theorem slot_fro_isdisjoint : Slot "frozenset" "isdisjoint" "frozenset.isdisjoint" :=
  .of (owner := "frozenset") (n := "isdisjoint") (by rw [typeLookup_type, builtinLookup_eq_fast]; kernel_rfl) (by decide +kernel) (by decide +kernel) (by decide +kernel)
    (by first | exact .inl (by decide +kernel) | exact .inr (by decide +kernel)) (by rw [isSubtype_type]; kernel_rfl)
theorem type_fro_isdisjoint : typeOf (.builtin "frozenset.isdisjoint") = pure (.type "method_descriptor") := by show builtinType _ = _; rw [builtinType_eq_fast]; kernel_rfl
theorem args_fro_isdisjoint (a b : Value) : argsOk "frozenset.isdisjoint" ⟨[a, b], []⟩ := by
  unfold argsOk; rw [signature?_of (id := "frozenset.isdisjoint") (n := ['t', 'n', 'i', 'o', 'j', 's', 'i', 'd', 's', 'i']) (o := ['t', 'e', 's', 'n', 'e', 'z', 'o', 'r', 'f']) (by kernel_rfl) owner_fro]; kernel_rfl
theorem entry_fro_isdisjoint : entryFor table "frozenset.isdisjoint" = some Builtin.«frozenset.isdisjoint» := entryFor_of_tree (by kernel_rfl)
theorem entry_fro_isdisjoint_loop : entryFor table "frozenset.isdisjoint.loop" = some Builtin.«frozenset.isdisjoint.loop» := entryFor_of_tree (by kernel_rfl)

/-- a frozenset of signs -/
noncomputable def FS (h : Heap) (a : Addr) (S : Nat → Bool) : Prop :=
  ∃ o es ep t, h.get? a = some o ∧ o.cls = .type "frozenset" ∧ o.dict = none ∧ o.data = .set es ep t ∧ t.fits es.size = true ∧ es.size < scanBound ∧ (∀ e ∈ es.toList, ∃ c j, e.2 = Value.str ⟨#[c]⟩ j) ∧ ∀ c, S c = true ↔ ∃ e ∈ es.toList, ∃ j, e.2 = Value.str ⟨#[c]⟩ j
theorem FS.keeps {h h' : Heap} {a : Addr} {S : Nat → Bool} (x : FS h a S) (k : ∀ b o, h.get? b = some o → h'.get? b = some o) : FS h' a S := let ⟨o, es, ep, t, e, r⟩ := x; ⟨o, es, ep, t, k _ _ e, r⟩
theorem FS.typeIs {s : Shared} {a : Addr} {S : Nat → Bool} (x : FS s.heap a S) : s.TypeIs (.ref a) "frozenset" := let ⟨o, _, _, _, ho, hc, _⟩ := x; ⟨o, ho, hc⟩

section
variable {w : World} {A : Around} {E : Value → Shared → Prop} {s : Shared} {a : Addr} {S : Nat → Bool}
theorem isStr1 {e : Int × Value} {c d : Nat} {j : Tok} (h : e.2 = Value.str ⟨#[d]⟩ j) : e.2.isStr ⟨#[c]⟩ = true ↔ d = c := by
  rw [h]
  show ((⟨#[d]⟩ : Str) == ⟨#[c]⟩) = true ↔ _
  rw [beq_iff_eq]
  constructor
  · intro h; injection h with h; simpa using h
  · rintro rfl; rfl
theorem setFind_fs {c : Nat} {tok : Tok} {hh : Int} {Q : Option Nat → Shared → Prop} (x : FS s.heap a S) (h : ∀ r : Option Nat, r.isSome = S c → Q r s) : wpAny (MD w) A (setFind a (.str ⟨#[c]⟩ tok) hh) Q E s := by
  obtain ⟨o, es, ep, t, ho, hc, _, hd, hf, hb, hel, hS⟩ := x
  have hscan : byScan (.str ⟨#[c]⟩ tok) es = true := by
    simp only [byScan, Value.scannable, Bool.true_and, Bool.and_eq_true, decide_eq_true_eq]
    refine ⟨hb, ?_⟩
    rw [← Array.all_toList, List.all_eq_true]
    intro e he
    obtain ⟨d, j, q⟩ := hel e he
    first | (rw [q]; done) | (rw [q]; rfl)
  have hstr : es.all (fun e => isExactStrKey e.2) = true := by
    rw [← Array.all_toList, List.all_eq_true]
    intro e he
    obtain ⟨d, j, q⟩ := hel e he
    rw [q]; rfl
  unfold setFind setFindIn
  refine wpAny_bind (wpAny_setState_of ho hd hf ?_)
  dsimp only
  rw [hscan]
  simp only [↓reduceIte]
  refine wpAny_bind (wpAny_rule ?_)
  unfold setScan
  dsimp only
  rw [if_pos hstr]
  unfold setScanStrs
  have e1 : es.findIdx? (fun e => e.2.isStr ⟨#[c]⟩) = es.toList.findIdx? (fun e => e.2.isStr ⟨#[c]⟩) := by cases es; simp
  cases hr : es.toList.findIdx? (fun e => e.2.isStr ⟨#[c]⟩) with
  | none =>
    rw [e1, hr]
    refine wpAny_bind (wpAny_pure (wpAny_pure (h none ?_)))
    rw [Option.isSome_none, eq_comm, ← Bool.not_eq_true, hS]
    rintro ⟨e, he, j, hp⟩
    have := List.findIdx?_eq_none_iff.mp hr e he
    rw [(isStr1 hp).mpr rfl] at this
    cases this
  | some i =>
    rw [e1, hr]
    obtain ⟨hi, hp, _⟩ := List.findIdx?_eq_some_iff_getElem.mp hr
    have hmem : es.toList[i] ∈ es.toList := List.getElem_mem hi
    obtain ⟨d, j, hj⟩ := hel _ hmem
    have hdc := (isStr1 hj).mp hp
    subst hdc
    have hge : es[i]? = some es.toList[i] := by
      rw [← Array.getElem?_toList]; exact List.getElem?_eq_getElem hi
    dsimp only
    rw [hge]
    refine wpAny_bind ?_
    generalize es.toList[i] = e at hj hmem
    obtain ⟨h', y⟩ := e
    dsimp only at hj ⊢
    subst hj
    refine wpAny_bind (wpAny_setEpoch_of ho hd hf ?_)
    refine wpAny_bind (wpAny_eqBool_str ?_)
    simp only [Bool.false_and, Bool.false_eq_true, if_false, decide_true]
    refine wpAny_bind (wpAny_setEpoch_of ho hd hf ?_)
    simp only [bne_self_eq_false, Bool.false_eq_true, if_false, if_true]
    refine wpAny_pure (wpAny_pure (h (some i) ?_))
    rw [Option.isSome_some, eq_comm, hS]
    exact ⟨_, hmem, j, rfl⟩
theorem setContains_fs {c : Nat} {tok : Tok} {Q : Bool → Shared → Prop} (x : FS s.heap a S) (h : Q (S c) { s with toks := s.toks + 1 }) : wpAny (MD w) A (setContains a (.str ⟨#[c]⟩ tok)) Q E s := by
  unfold setContains
  refine wpAny_holding (wpAny_bind (wpAny_pyHash_str ?_))
  refine wpAny_bind (setFind_fs (s := { s with toks := s.toks + 1 }) x fun r hr => ?_)
  refine wpAny_pure ?_
  rw [hr]; exact h
theorem contains_fs {c : Nat} {tok : Tok} {Q : Bool → Shared → Prop} (x : FS s.heap a S) (h : Q (S c) { s with toks := s.toks + 1 }) : wpAny (MD w) A (contains (.ref a) (.str ⟨#[c]⟩ tok)) Q E s := by
  unfold contains
  try with_reducible refine wpAny_holding ?_
  refine wpAny_bind (wpAny_specialOf x.typeIs slot_fro_contains.lookup ?_)
  show wpAny _ _ (if (some (Value.builtin "frozenset.__contains__") == some Value.none) = true then _ else _) _ E s
  rw [if_neg (by rw [beq_builtin_none]; exact Bool.false_ne_true)]
  refine wpAny_bind (wpAny_callSpecialUnlessNone?_slot (name := Str.ofString "__contains__") x.typeIs slot_fro_contains
    (wpAny_call_entry slot_fro_contains x.typeIs entry_fro_contains ?_ (args_fro_contains _ _)))
  unfold Builtin.«frozenset.__contains__» Builtin.Frozenset.oneOther
  simp only [List.isEmpty_nil, bind_assoc]
  unfold Builtin.Frozenset.addrOf Builtin.Frozenset.withSetAsKey
  refine wpAny_bind (wpAny_pure ?_)
  try dsimp only
  refine wpAny_bind (wpAny_pure ?_)
  try dsimp only
  refine wpAny_bind (wpAny_tryCatch (setContains_fs x ?_))
  exact wpAny_pure ⟨_, rfl, wpAny_truthy_bool h⟩
end

section
variable {w : World} {base : Heap} {n : Nat} {sc : Scope} {ρ ρ' : Rho} {ow ow' : Ow} {GL : Str → Option Value}
theorem P2.inF {a : Addr} {S : Nat → Bool} (x : FS base a S) {c : Nat} : P2 w base n (compareOp .In) (.str ⟨#[c]⟩) (.ref (.ref a)) (.bool (S c)) := fun A g s u v ok ru rv Q E hq => by
  obtain ⟨t, rfl⟩ := unS ru
  obtain rfl := unR rv
  show wpAny _ _ (do return .bool (← contains (.ref a) (.str ⟨#[c]⟩ t))) Q E s
  exact wpAny_bind (contains_fs (x.keeps ok.stays) (wpAny_pure (hq _ s.heap _ g (Step.refl ok.sub) repB)))
theorem P2.ninF {a : Addr} {S : Nat → Bool} (x : FS base a S) {c : Nat} : P2 w base n (compareOp .NotIn) (.str ⟨#[c]⟩) (.ref (.ref a)) (.bool (!S c)) := fun A g s u v ok ru rv Q E hq => by
  obtain ⟨t, rfl⟩ := unS ru
  obtain rfl := unR rv
  show wpAny _ _ (do return .bool (!(← contains (.ref a) (.str ⟨#[c]⟩ t)))) Q E s
  exact wpAny_bind (contains_fs (x.keeps ok.stays) (wpAny_pure (hq _ s.heap _ g (Step.refl ok.sub) repB)))
end
end Mine
end
section
open PySem PySem.W PyProof.Rows PySem.Calls PySem.SeqAt
set_option maxRecDepth 100000
namespace Mine

theorem plain_fro_loop : plainId "frozenset.isdisjoint.loop" = true := by decide +kernel
section
variable {w : World} {A : Around} {E : Value → Shared → Prop} {s : Shared} {a : Addr} {S : Nat → Bool}

theorem disj_loop {R : Result → Shared → Prop} {I : Addr} {fp wr : List Addr} {P : Nat → Value → Prop} {St : Nat → Heap → Prop} {l : List Nat} (W : Walks prog w A.in1 I fp wr l.length P St) (hP : ∀ i v, P i v → ∃ c t, l[i]? = some c ∧ v = Value.str ⟨#[c]⟩ t) (ha : a ∉ wr) : ∀ (k i : Nat) (s : Shared), l.length - i = k → i ≤ l.length → St i s.heap → FS s.heap a S →
    (∀ h' tk, (∀ b o, b ∉ wr → s.heap.get? b = some o → h'.get? b = some o) → R (.ok (.ret (.bool (!((l.drop i).any S))))) { s with heap := h', toks := tk }) →
    codeAny (MD w) A (.builtin "frozenset.isdisjoint.loop" ⟨[.ref a, .ref I], []⟩) R s := by
  intro k
  induction k with
  | zero =>
    intro i s hk hi hst x hR
    have hin : i = l.length := by omega
    subst hin
    refine codeAny_builtin entry_fro_isdisjoint_loop ?_
    rw [Around.under_plainId plain_fro_loop _]
    show wpAny _ A.in1 (pyNext (.ref I) >>= _) _ _ s
    refine wpAny_bind (W.done s _ _ hst fun h' tk hk' => ?_)
    refine wpAny_pure ?_
    have := hR h' tk hk'
    rw [List.drop_length] at this
    exact this
  | succ k ih =>
    intro i s hk hi hst x hR
    have hlt : i < l.length := by omega
    have hd : l.drop i = l[i] :: l.drop (i + 1) := List.drop_eq_getElem_cons hlt
    refine codeAny_builtin entry_fro_isdisjoint_loop ?_
    rw [Around.under_plainId plain_fro_loop _]
    show wpAny _ A.in1 (pyNext (.ref I) >>= _) _ _ s
    refine wpAny_bind (W.item i s _ _ hlt hst fun v h' tk hPv hst' hk' => ?_)
    obtain ⟨c, t, hc, rfl⟩ := hP i v hPv
    have hci : l[i] = c := by rw [List.getElem?_eq_getElem hlt] at hc; exact Option.some.inj hc
    rw [hci] at hd
    have x' : FS h' a S := let ⟨o, es, ep, t, e, r⟩ := x; ⟨o, es, ep, t, hk' _ _ ha e, r⟩
    dsimp only
    refine wpAny_bind (wpAny_holding (setContains_fs (s := { s with heap := h', toks := tk }) x' ?_))
    cases hb : S c with
    | false =>
      simp only [Bool.false_eq_true, if_false]
      refine wpAny_pure ⟨plainId_quiet plain_fro_loop _, ih (i + 1) _ (by omega) hlt hst' x' fun h'' tk'' hk'' => ?_⟩
      have := hR h'' tk'' fun b o hbw e => hk'' b o hbw (hk' b o hbw e)
      rw [hd, List.any_cons, hb, Bool.false_or] at this
      exact this
    | true =>
      simp only [if_true]
      refine wpAny_pure ?_
      have := hR h' (tk + 1) hk'
      rw [hd, List.any_cons, hb, Bool.true_or] at this
      exact this
end

section
variable {w : World} {base : Heap} {n : Nat} {sc : Scope} {ρ ρ' : Rho} {ow ow' : Ow} {GL : Str → Option Value}
theorem CON.disj {a : Addr} {S : Nat → Bool} (x : FS base a S) {y : Str} : CON w base n (.builtin "frozenset.isdisjoint") [.ref (.ref a), .str y] (.bool (!(y.cps.toList.any S))) := fun A g s xs ok rx Q E hq => by
  obtain ⟨u, v, rfl, ru, rv⟩ := un2 rx
  obtain rfl := unR ru
  obtain ⟨t, rfl⟩ := unS rv
  have x' := x.keeps ok.stays
  refine wpAny_call (codeAny_call_builtin slot_fro_isdisjoint.plain entry_fro_isdisjoint (slot_fro_isdisjoint.check _ _ _ _ _ _ _ _ x'.typeIs (args_fro_isdisjoint _ _) ?_))
  unfold Builtin.«frozenset.isdisjoint» Builtin.Frozenset.oneOther
  simp only [List.isEmpty_nil, bind_assoc]
  unfold Builtin.Frozenset.addrOf
  refine wpAny_bind (wpAny_pure ?_)
  try dsimp only
  refine wpAny_bind (wpAny_pure ?_)
  try dsimp only
  rw [if_neg (show ¬ ((Value.str y t == Value.ref a) = true) from by simp)]
  refine wpAny_bind (wpAny_of_eq (a := Value.type "str") rfl ?_)
  rw [if_neg (by decide)]
  refine wpAny_bind (IT.str (x := y) A.in1 g s (.str y t) _ _ ok.handled ok.sub repS fun I fp wr P St h' W hst keeps hfp hwr _ hPI _ _ => ?_)
  have hl : (y.cps.toList.map fun c => PV.str ⟨#[c]⟩).length = y.cps.toList.length := by simp
  rw [hl] at W
  have haw : a ∉ wr := fun z => by
    obtain ⟨o, _, _, _, e, _⟩ := x'
    rw [hwr a z] at e; cases e
  refine wpAny_pure ⟨plainId_quiet plain_fro_loop _, disj_loop (S := S) (l := y.cps.toList) W (fun i v hv => ?_) haw _ 0 _ rfl (Nat.zero_le _) hst (x'.keeps keeps) fun h'' tk hk => ?_⟩
  · obtain ⟨q, hq', rq⟩ := hPI i v hv
    rw [List.getElem?_map] at hq'
    cases hc : y.cps.toList[i]? with
    | none => rw [hc] at hq'; simp at hq'
    | some c =>
      rw [hc] at hq'; simp only [Option.map_some, Option.some.injEq] at hq'
      subst hq'
      obtain ⟨t', rfl⟩ := unS rq
      exact ⟨c, t', rfl, rfl⟩
  · rw [List.drop_zero]
    exact hq _ h'' tk g (Step.of_ext ok.sub fun b o e => hk b o (fun z => by rw [hwr b z] at e; cases e) (keeps b o e)) repB

theorem ev.disj {o e : Expr} {apos pos : Pos} {a : Addr} {S : Nat → Bool} {y : Str} (x : FS base a S) (ho : ev w base n sc ρ o (.ref (.ref a))) (he : evs w base n sc ρ [e] [.str y])
    (hbase : ∀ env, attributeBase o "isdisjoint" env (eval o env) = eval o env := by intros; rfl)
    (hfew : ∀ env, ((backTo pos (starEach [e] env)).all (fun x => !x.1) && (backToKw pos (keywordEach [] env)).all (fun x => x.1.isSome) && decide ([e].length + ([] : List Keyword).length + (if ([] : List Keyword).isEmpty then 0 else 1) < 30)) = true := by intros; rfl)
    (hline : (apos.endLine == pos.line) = true := by rfl)
    (hp : ∀ env, (backTo pos (starEach [e] env)).any (·.1) = false := by intros; rfl) (hne : ∀ env, ∃ x r, backTo pos (starEach [e] env) = x :: r := by intros; exact ⟨_, _, rfl⟩) :
    ev w base n sc ρ (.Call (.Attribute o "isdisjoint" apos) [e] [] pos) (.bool (!(y.cps.toList.any S))) :=
  ⟨fun A env g s hs G Q E hq => wpAny_Call_method (hbase env) (hfew env) hline plainAttrs_fro slot_fro_isdisjoint type_fro_isdisjoint (ho.raw A env g s hs G _ _ fun v h₁ tk₁ g₁ st₁ rx => by
    obtain rfl := unR rx
    have x' := x.keeps (G.step st₁).ok.stays
    refine ⟨FS.typeIs (s := { s with heap := h₁, toks := tk₁ }) x', fun b z => ?_, ?_⟩
    · cases z
      obtain ⟨o, _, _, _, e1, _, e2, _⟩ := x'
      exact ⟨o, e1, e2⟩
    exact callWith_vals .builtin hs (G.step st₁) he.raw (hp env) (hne env) fun xs h₂ tk₂ g₂ st₂ rxs => CON.disj (n := n) x A g₂ _ (.ref a :: xs) ((G.step st₁).step st₂).ok (RepL.cons repR rxs) _ _ fun z h₃ tk₃ g₃ st₃ rz => hq z h₃ tk₃ g₃ ((st₁.trans st₂).trans st₃) rz)⟩
end
end Mine
end
section
open PySem PySem.W PyProof.Rows PySem.Calls PySem.SeqAt
set_option maxRecDepth 100000
namespace Mine

section
variable {ph : Ph} {w : World} {base : Heap} {n : Nat} {sc : Scope} {ρ ρ' : Rho} {ow ow' : Ow} {GL : Str → Option Value}
theorem CONS.defs {f : Addr} {st : Stmt} {names : List Str} {args : List PV} {r : PV} (W : Wd GL base) (D : IsDef base f st names) (hok : fnOk (scopeOf st) names = true) (hlen : args.length = names.length)
    (h : xss ph w base n (scopeOf st) (names.zip args) none (bodyOf st) (.ok (.ret r))) : CON w base (n + 1) (.ref f) args r := by
  obtain ⟨fd, F, hs, hb⟩ := D
  rw [← hs] at hok h
  exact CONS.fn W F hok hlen hb h
theorem CONR.defs {f : Addr} {st : Stmt} {names : List Str} {as : List PV} {cls : Value} {args : Option (List PV)} (W : Wd GL base) (D : IsDef base f st names) (hok : fnOk (scopeOf st) names = true) (hlen : as.length = names.length)
    (h : xss ph w base n (scopeOf st) (names.zip as) none (bodyOf st) (.exc ρ' ow' cls args)) : CONR ph w base (n + 1) (.ref f) as cls args := by
  obtain ⟨fd, F, hs, hb⟩ := D
  rw [← hs] at hok h
  exact CONR.fn W F hok hlen hb h
theorem CGS.def {name : Str} {i : Nat} {names : List Str} {args : List PV} {r : PV} (W : Wd GL base) (D : DefAt GL base name i names) (hok : fnOk (scopeOf (stAt i)) names = true) (hlen : args.length = names.length)
    (h : xss ph w base n (scopeOf (stAt i)) (names.zip args) none (bodyOf (stAt i)) (.ok (.ret r))) : CG GL w base (n + 1) name args r := by
  obtain ⟨f, h1, h2⟩ := D
  exact ⟨.ref f, h1, h2.calls, CONS.defs W h2 hok hlen h⟩
theorem CGR.def {name : Str} {i : Nat} {names : List Str} {as : List PV} {cls : Value} {args : Option (List PV)} (W : Wd GL base) (D : DefAt GL base name i names) (hok : fnOk (scopeOf (stAt i)) names = true) (hlen : as.length = names.length)
    (h : xss ph w base n (scopeOf (stAt i)) (names.zip as) none (bodyOf (stAt i)) (.exc ρ' ow' cls args)) : CGR GL ph w base (n + 1) name as cls args := by
  obtain ⟨f, h1, h2⟩ := D
  exact ⟨.ref f, h1, h2.calls, CONR.defs W h2 hok hlen h⟩
theorem xss.le {sts : List Stmt} {x : OutX} (l : Le ρ' ρ) (h : xss ph w base n sc ρ' ow sts x) : xss ph w base n sc ρ ow sts x := ⟨fun A env h₀ g₀ g s hs ha G Q E hq => h.raw A env h₀ g₀ g s hs ha (G.le l) Q E hq⟩
theorem xs.le {st : Stmt} {x : OutX} (l : Le ρ' ρ) (h : xs ph w base n sc ρ' ow st x) : xs ph w base n sc ρ ow st x := ⟨fun A env h₀ g₀ g s hs ha G Q E hq => h.raw A env h₀ g₀ g s hs ha (G.le l) Q E hq⟩

/-- the first place from pos on whose sign is not of S -/
noncomputable def skipTo (S : Nat → Bool) (x : Str) (pos : Nat) : Nat := pos + ((x.cps.toList.drop pos).takeWhile S).length
theorem skipTo_step {S : Nat → Bool} {x : Str} {pos c : Nat} (h : x.cps[pos]? = some c) (hs : S c = true) : skipTo S x pos = skipTo S x (pos + 1) := by
  obtain ⟨hi, hc⟩ := Array.getElem?_eq_some_iff.mp h
  have hl : pos < x.cps.toList.length := by simpa using hi
  unfold skipTo
  rw [List.drop_eq_getElem_cons hl, List.takeWhile_cons]
  have : x.cps.toList[pos] = c := by simpa using hc
  rw [this, if_pos hs, List.length_cons]
  omega
theorem skipTo_stop {S : Nat → Bool} {x : Str} {pos c : Nat} (h : x.cps[pos]? = some c) (hs : S c = false) : skipTo S x pos = pos := by
  obtain ⟨hi, hc⟩ := Array.getElem?_eq_some_iff.mp h
  have hl : pos < x.cps.toList.length := by simpa using hi
  unfold skipTo
  rw [List.drop_eq_getElem_cons hl, List.takeWhile_cons]
  have : x.cps.toList[pos] = c := by simpa using hc
  rw [this, if_neg (by rw [hs]; decide)]; rfl
theorem skipTo_end {S : Nat → Bool} {x : Str} {pos : Nat} (h : x.length ≤ pos) : skipTo S x pos = pos := by
  unfold skipTo
  rw [List.drop_of_length_le (by have : x.cps.size = x.length := rfl
                                 simpa using this ▸ h)]; rfl

noncomputable def rhoSC (x : Str) (p : Nat) (chars : PV) : Rho := [("src", .str x), ("pos", .int p), ("chars", chars)]
/-- the loop of skip_chars -/
theorem wl_skip {test : Expr} {body : List Stmt} {S : Nat → Bool} {x : Str} {chars : PV} (hz : x.length < 1000000)
    (ht : ∀ p c, x.cps[p]? = some c → tv w base n sc (rhoSC x p chars) test (S c)) (he : ∀ p, p < 2000000 → x.length ≤ p → tvx ph0 w base n sc (rhoSC x p chars) test (.type "IndexError") none)
    (hb : ∀ p, sxs w base n sc (rhoSC x p chars) none body (.next (rhoSC x (p + 1) chars) none)) :
    ∀ k p, x.length - p ≤ k → p < 2000000 → (skipTo S x p < x.length → wl ph0 w base n sc test body [] k (rhoSC x p chars) none (.ok (.next (rhoSC x (skipTo S x p) chars) none))) ∧ (x.length ≤ skipTo S x p → wl ph0 w base n sc test body [] k (rhoSC x p chars) none (.exc (rhoSC x (skipTo S x p) chars) none (.type "IndexError") none))
  | k, p, hk, hp => by
    rcases Nat.lt_or_ge p x.length with h | h
    · obtain ⟨c, hc⟩ : ∃ c, x.cps[p]? = some c := ⟨_, Array.getElem?_eq_getElem h⟩
      cases hs : S c with
      | false =>
        rw [skipTo_stop hc hs]
        exact ⟨fun _ => .stop (hs ▸ ht p c hc) (xss.of sxs.nil), fun z => by omega⟩
      | true =>
        rw [skipTo_step hc hs]
        obtain ⟨k', rfl⟩ : ∃ k', k = k' + 1 := ⟨k - 1, by omega⟩
        obtain ⟨q1, q2⟩ := wl_skip hz ht he hb k' (p + 1) (by omega) (by omega)
        exact ⟨fun z => .next (hs ▸ ht p c hc) (xss.of (hb p)) (q1 z), fun z => .next (hs ▸ ht p c hc) (xss.of (hb p)) (q2 z)⟩
    · rw [skipTo_end h]
      exact ⟨fun z => by omega, fun _ => .tst (he p hp h)⟩

theorem skipTo_le {S : Nat → Bool} {x : Str} {p : Nat} : p ≤ skipTo S x p := Nat.le_add_right _ _
theorem skipTo_max {S : Nat → Bool} {x : Str} {p : Nat} (hp : p ≤ x.length) : skipTo S x p ≤ x.length := by
  unfold skipTo
  have h1 : ((x.cps.toList.drop p).takeWhile S).length ≤ (x.cps.toList.drop p).length := (List.takeWhile_sublist S).length_le
  have h2 : (x.cps.toList.drop p).length = x.length - p := by rw [List.length_drop]; rfl
  omega
/-- what else the top has laid -/
structure TopX (GL : Str → Option Value) (base : Heap) : Prop where
  T : Tops GL base
  idx : GL "IndexError" = some (.type "IndexError")
  skipc : DefAt GL base "skip_chars" 7 ["src", "pos", "chars"]

theorem c_skip (X : TopX GL base) {x : Str} {p : Nat} {S : Nat → Bool} {chars : PV} (hz : x.length < 1000000) (hp : p < 1000000) (hm : ∀ c, P2 w base n (compareOp .In) (.str ⟨#[c]⟩) chars (.bool (S c))) :
    CG GL w base (n + 1) "skip_chars" [.str x, .int p, chars] (.int (skipTo S x p)) := by
  haveI := ph0_ok (base := base)
  refine CGS.def (ph := ph0) X.T.W X.skipc (by decide) rfl ?_
  have hcc : x.cps.size = x.length := rfl
  rcases Nat.lt_or_ge (skipTo S x p) x.length with h | h
  · refine xss.cons (ρ' := rhoSC x (skipTo S x p) chars) (ow' := none) (xs.tryOk (xss.one (xs.while x.length ((wl_skip hz (fun q c hc => ?_) (fun q hq h => ?_) (fun q => ?_) x.length p (by omega) (by omega)).1 h)))) (xss.of (sxs.ret (sx.ret (ev.name rfl))))
    · exact tv.cmp (ev.index (ev.name rfl) (ev.name rfl) (IX.str (k := q) (by omega) (by have := (Array.getElem?_eq_some_iff.mp hc).1; omega) hc)) (ev.name rfl) (hm c) PB.bool
    · exact tvx.cmp (evx.past (k := q) (ev.name rfl) (ev.name rfl) (by omega) (by omega) h)
    · exact sxs.out (Le.cons rfl (Le.cons rfl (Le.cons rfl Le.nil))) (sxs.one (sx.aug rfl ev.int P2.iadd rfl))
  · refine xss.cons (ρ' := rhoSC x (skipTo S x p) chars) (ow' := none) (xs.tryIdx X.T.W X.idx (xss.one (xs.while x.length ((wl_skip hz (fun q c hc => ?_) (fun q hq h => ?_) (fun q => ?_) x.length p (by omega) (by omega)).2 h))) hss.pass) (xss.of (sxs.ret (sx.ret (ev.name rfl))))
    · exact tv.cmp (ev.index (ev.name rfl) (ev.name rfl) (IX.str (k := q) (by omega) (by have := (Array.getElem?_eq_some_iff.mp hc).1; omega) hc)) (ev.name rfl) (hm c) PB.bool
    · exact tvx.cmp (evx.past (k := q) (ev.name rfl) (ev.name rfl) (by omega) (by omega) h)
    · exact sxs.out (Le.cons rfl (Le.cons rfl (Le.cons rfl Le.nil))) (sxs.one (sx.aug rfl ev.int P2.iadd rfl))
end
end Mine
end
section
open PySem PySem.W PyProof.Rows PySem.Calls PySem.SeqAt
set_option maxRecDepth 100000
namespace Mine
open Builtin Builtin.Str Builtin.Int in
theorem gives_index_from (x y : Str) (i : Nat) (t u v : Tok) (k : Nat) (rest : List Nat) (h : occurrences x y i x.length 1 = k :: rest) : Gives («str.index» ⟨[.str x t, .str y u, .int i v], []⟩) (.int k) := by
  have e : fromIndex x.length (i : Int) = i := by unfold fromIndex; rw [if_neg (by omega)]; omega
  show Gives (match occurrences x y (fromIndex x.length i) (min x.length x.length) 1 with | k :: _ => retInt k | [] => (do rule "str.index.not-found"; raiseError "ValueError" "substring not found")) _
  rw [Nat.min_self, e, h]
  exact .of_eq rfl
open Builtin Builtin.Str Builtin.Int in
theorem gives_count_between (x y : Str) (i j : Nat) (t u v z : Tok) : Gives («str.count» ⟨[.str x t, .str y u, .int i v, .int j z], []⟩) (.int (occurrences x y i (min j x.length) (x.length + 1)).length) := by
  have e : ∀ i : Nat, fromIndex x.length (i : Int) = i := fun i => by unfold fromIndex; rw [if_neg (by omega)]; omega
  show Gives (retInt (occurrences x y (fromIndex x.length i) (min (fromIndex x.length j) x.length) (x.length + 1)).length) _
  rw [e, e]
  exact .of_eq rfl
open Builtin Builtin.Str Builtin.Int in
theorem gives_rindex_between (x y : Str) (i j : Nat) (t u v z : Tok) (k : Nat) (h : lastOccurrence x y i (min j x.length) = some k) : Gives («str.rindex» ⟨[.str x t, .str y u, .int i v, .int j z], []⟩) (.int k) := by
  have e : ∀ i : Nat, fromIndex x.length (i : Int) = i := fun i => by unfold fromIndex; rw [if_neg (by omega)]; omega
  show Gives (match lastOccurrence x y (fromIndex x.length i) (min (fromIndex x.length j) x.length) with | some i => retInt i | none => (do rule "str.rindex.not-found"; raiseError "ValueError" "substring not found")) _
  rw [e, e, h]
  exact .of_eq rfl

section
variable {w : World} {base : Heap} {n : Nat} {sc : Scope} {ρ ρ' : Rho} {ow ow' : Ow} {GL : Str → Option Value}
theorem un3 {g : Gh} {p q r : PV} {xs : List Value} (h : RepL g [p, q, r] xs) : ∃ x y z, xs = [x, y, z] ∧ Rep g p x ∧ Rep g q y ∧ Rep g r z := by
  simp only [RepL] at h
  obtain ⟨v, vs, rfl, h1, u, us, rfl, h2, z, zs, rfl, h3, rfl⟩ := h
  exact ⟨v, u, z, rfl, h1, h2, h3⟩
theorem un4 {g : Gh} {p q r o : PV} {xs : List Value} (h : RepL g [p, q, r, o] xs) : ∃ x y z a, xs = [x, y, z, a] ∧ Rep g p x ∧ Rep g q y ∧ Rep g r z ∧ Rep g o a := by
  simp only [RepL] at h
  obtain ⟨v, vs, rfl, h1, u, us, rfl, h2, z, zs, rfl, h3, a, as, rfl, h4, rfl⟩ := h
  exact ⟨v, u, z, a, rfl, h1, h2, h3, h4⟩
theorem CON.index3 {x y : Str} {i k : Nat} {rest : List Nat} (h : Builtin.Str.occurrences x y i x.length 1 = k :: rest) : CON w base n (.builtin "str.index") [.str x, .str y, .int i] (.int k) := fun A g s xs ok rx Q E hq => by
  obtain ⟨a, b, c, rfl, ra, rb, rc⟩ := un3 rx
  obtain ⟨t, rfl⟩ := unS ra
  obtain ⟨u, rfl⟩ := unS rb
  obtain ⟨v, rfl⟩ := unI rc
  exact call_gives F.slot_str_index (typeIs_str _ _ _) F.entry_str_index (F.args_str_index_3 _ _ _) (gives_index_from x y i t u v k rest h) (hq _ s.heap _ g (Step.refl ok.sub) repI)
theorem CON.count4 {x y : Str} {i j : Nat} : CON w base n (.builtin "str.count") [.str x, .str y, .int i, .int j] (.int (Builtin.Str.occurrences x y i (min j x.length) (x.length + 1)).length) := fun A g s xs ok rx Q E hq => by
  obtain ⟨a, b, c, d, rfl, ra, rb, rc, rd⟩ := un4 rx
  obtain ⟨t, rfl⟩ := unS ra
  obtain ⟨u, rfl⟩ := unS rb
  obtain ⟨v, rfl⟩ := unI rc
  obtain ⟨z, rfl⟩ := unI rd
  exact call_gives F.slot_str_count (typeIs_str _ _ _) F.entry_str_count (F.args_str_count_4 _ _ _ _) (gives_count_between x y i j t u v z) (hq _ s.heap _ g (Step.refl ok.sub) repI)
theorem CON.rindex4 {x y : Str} {i j k : Nat} (h : Builtin.Str.lastOccurrence x y i (min j x.length) = some k) : CON w base n (.builtin "str.rindex") [.str x, .str y, .int i, .int j] (.int k) := fun A g s xs ok rx Q E hq => by
  obtain ⟨a, b, c, d, rfl, ra, rb, rc, rd⟩ := un4 rx
  obtain ⟨t, rfl⟩ := unS ra
  obtain ⟨u, rfl⟩ := unS rb
  obtain ⟨v, rfl⟩ := unI rc
  obtain ⟨z, rfl⟩ := unI rd
  exact call_gives F.slot_str_rindex (typeIs_str _ _ _) F.entry_str_rindex (F.args_str_rindex_4 _ _ _ _) (gives_rindex_between x y i j t u v z k h) (hq _ s.heap _ g (Step.refl ok.sub) repI)

/-- f-strings -/
theorem ev.fmtS {value : Expr} {pos : Pos} {x : Str} (h : ev w base n sc ρ value (.str x)) (hx : x.length ≤ sizeLine) : ev w base n sc ρ (.FormattedValue value (-1) Option.none pos) (.str x) :=
  ⟨fun A env g s hs G Q E hq => wpAny_FormattedValue_plain (h.raw A env g s hs G _ _ fun v h₁ tk₁ g₁ st₁ rv => by
    obtain ⟨t, rfl⟩ := unS rv
    exact wpAny_formatField_str (hq _ h₁ _ g₁ st₁ repS) (hq _ h₁ _ g₁ st₁ repS) hx)⟩
theorem ev.fmtI {value : Expr} {pos : Pos} {a : Int} (h : ev w base n sc ρ value (.int a)) (ha : a.natAbs.log2 < 1920) : ev w base n sc ρ (.FormattedValue value (-1) Option.none pos) (.str (toString a)) :=
  ⟨fun A env g s hs G Q E hq => wpAny_FormattedValue_plain (h.raw A env g s hs G _ _ fun v h₁ tk₁ g₁ st₁ rv => by
    obtain ⟨t, rfl⟩ := unI rv
    exact wpAny_formatField_int ha (hq _ h₁ _ g₁ st₁ repS))⟩
theorem ev.fmtR {value : Expr} {pos : Pos} {x : Str} (h : ev w base n sc ρ value (.str x)) (hx : (reprText x).length ≤ sizeLine) : ev w base n sc ρ (.FormattedValue value 114 Option.none pos) (.str (reprText x)) :=
  ⟨fun A env g s hs G Q E hq => wpAny_FormattedValue_repr (h.raw A env g s hs G _ _ fun v h₁ tk₁ g₁ st₁ rv => by
    obtain ⟨t, rfl⟩ := unS rv
    exact pyReprObj_str (wpAny_formatField_str (hq _ h₁ _ g₁ st₁ repS) (hq _ h₁ _ g₁ st₁ repS) hx) hx)⟩

/-- parts of an f-string -/
inductive evp (w : World) (base : Heap) (n : Nat) (sc : Scope) (ρ : Rho) : List Expr → List Str → Prop
  | nil : evp w base n sc ρ [] []
  | cons {e es x xs} : ev w base n sc ρ e (.str x) → evp w base n sc ρ es xs → evp w base n sc ρ (e :: es) (x :: xs)
noncomputable def glueL (acc : Str) (xs : List Str) : Str := xs.foldl (· ++ ·) acc
theorem evp_joins : ∀ {es : List Expr} {xs : List Str}, evp w base n sc ρ es xs → ∀ (A : Around) (env : Env) (g : Gh) (s : Shared) (acc : Str) (Q : Str → Shared → Prop) (E : Value → Shared → Prop), env.scope = sc → Good base n A env g ρ s.heap → acc.length + (xs.map (·.length)).sum ≤ sizeLine →
    (∀ h' tk g', Step g g' s.heap h' → Q (glueL acc xs) { s with heap := h', toks := tk }) → Joins (MD w) A E (evalEach es env) acc Q s
  | _, _, .nil, A, env, g, s, acc, Q, E, hs, G, hz, hq => hq s.heap s.toks g (Step.refl G.ok.sub)
  | _, _, .cons (x := x) (xs := xs) he hr, A, env, g, s, acc, Q, E, hs, G, hz, hq => by
    show wpAny _ _ _ _ _ _
    refine he.raw A env g s hs G _ _ fun v h₁ tk₁ g₁ st₁ rv => ?_
    obtain ⟨t, rfl⟩ := unS rv
    simp only [List.map_cons, List.sum_cons] at hz
    exact ⟨x, t, rfl, by rw [slen]; omega, evp_joins hr A env g₁ _ (acc ++ x) Q E hs (G.step st₁) (by rw [slen]; omega) fun h' tk g' st => hq h' tk g' (st₁.trans st)⟩
theorem glueL_len : ∀ {xs : List Str} {acc : Str}, (glueL acc xs).length = acc.length + (xs.map (·.length)).sum
  | [], acc => by simp [glueL]
  | x :: r, acc => by
    have := glueL_len (xs := r) (acc := acc ++ x)
    rw [slen] at this
    simp only [List.map_cons, List.sum_cons]
    show (glueL (acc ++ x) r).length = _
    omega
theorem ev.joined {v₁ v₂ : Expr} {rest : List Expr} {pos : Pos} {xs : List Str} (h : evp w base n sc ρ (v₁ :: v₂ :: rest) xs) (hz : (xs.map (·.length)).sum ≤ sizeLine) : ev w base n sc ρ (.JoinedStr (v₁ :: v₂ :: rest) pos) (.str (glueL Str.empty xs)) :=
  ⟨fun A env g s hs G Q E hq => wpAny_JoinedStr (evp_joins h A env g s Str.empty _ E hs G (by show 0 + _ ≤ _; omega) fun h' tk g' st => ⟨by rw [glueL_len]; show 0 + _ ≤ _; omega, hq _ h' _ g' st repS⟩)⟩
end
end Mine
end
section
open PySem PySem.W PyProof.Rows PySem.Calls PySem.SeqAt
set_option maxRecDepth 100000
namespace Mine

/-- a table of a code drops out -/
noncomputable def ph1 (X : Addr) : Ph := ⟨fun h => h.hide X, fun g b => if b = X then none else g b, fun h => h.hide X, fun g => ∃ ps : Array Value, g X = some { cls := .none, data := .fields ps }⟩
noncomputable def minus (X : Addr) (g : Gh) : Gh := fun b => if b = X then none else g b
theorem minus_some {X : Addr} {g : Gh} {b : Addr} {o : Obj} (h : minus X g b = some o) : b ≠ X ∧ g b = some o := by
  unfold minus at h
  by_cases e : b = X
  · rw [if_pos e] at h; cases h
  · rw [if_neg e] at h; exact ⟨e, h⟩
theorem minus_ne {X : Addr} {g : Gh} {b : Addr} (e : b ≠ X) : minus X g b = g b := if_neg e
theorem minus_none {X : Addr} {g : Gh} {b : Addr} (h : g b = none) : minus X g b = none := by
  unfold minus
  split
  · rfl
  · exact h
theorem hide_get {h : Heap} {X b : Addr} {o : Obj} (e : h.get? b = some o) (hb : b ≠ X) : (h.hide X).get? b = some o := (Heap.hide_ne h hb).trans e
theorem hide_none {h : Heap} {X b : Addr} (e : h.get? b = none) : (h.hide X).get? b = none := by
  cases q : (h.hide X).get? b with
  | none => rfl
  | some o => have := Heap.of_hide q; rw [e] at this; cases this
theorem hide_some {h : Heap} {X b : Addr} {o : Obj} (e : (h.hide X).get? b = some o) : b ≠ X ∧ h.get? b = some o := by
  refine ⟨fun z => ?_, Heap.of_hide e⟩
  rw [z, Heap.hide_self] at e; cases e
mutual
theorem Rep.minus {X : Addr} {g : Gh} (hX : ∀ o, g X = some o → o.cls = .none) : ∀ {p : PV} {v : Value}, Rep g p v → Rep (Mine.minus X g) p v
  | .none, _, h => by simpa only [Rep] using h
  | .bool _, _, h => by simpa only [Rep] using h
  | .int _, _, h => by simpa only [Rep] using h
  | .str _, _, h => by simpa only [Rep] using h
  | .ref _, _, h => by simpa only [Rep] using h
  | .rng _, _, h => by
    simp only [Rep] at h ⊢
    obtain ⟨a, t₁, t₂, t₃, e, h1⟩ := h
    refine ⟨a, t₁, t₂, t₃, e, (minus_ne fun z => ?_).trans h1⟩
    rw [z] at h1
    have := hX _ h1
    cases this
  | .list l, _, h => by
    simp only [Rep] at h ⊢
    obtain ⟨a, o, n, items, e, h1, h2, h3, h4⟩ := h
    refine ⟨a, o, n, items, e, (minus_ne fun z => ?_).trans h1, h2, h3, RepL.minus hX h4⟩
    rw [z] at h1
    have := hX _ h1
    rw [h2] at this; cases this
  | .tup l, _, h => by
    simp only [Rep] at h ⊢
    obtain ⟨a, o, n, items, e, h1, h2, h3, h4⟩ := h
    refine ⟨a, o, n, items, e, (minus_ne fun z => ?_).trans h1, h2, h3, RepL.minus hX h4⟩
    rw [z] at h1
    have := hX _ h1
    rw [h2] at this; cases this
theorem RepL.minus {X : Addr} {g : Gh} (hX : ∀ o, g X = some o → o.cls = .none) : ∀ {l : List PV} {vs : List Value}, RepL g l vs → RepL (Mine.minus X g) l vs
  | [], _, h => by simpa only [RepL] using h
  | p :: r, _, h => by
    simp only [RepL] at h ⊢
    obtain ⟨v, vs', e, h1, h2⟩ := h
    exact ⟨v, vs', e, Rep.minus hX h1, RepL.minus hX h2⟩
end
theorem Held.hide {X : Addr} {h : Heap} {env : Env} {x : Str} {v : Value} (k : Held h env x v) (hl : env.locals ≠ X) (hc : ∀ c, env.kindOf x = some .cell → env.cells.lookup x = some c → c ≠ X) : Held (h.hide X) env x v := by
  rcases k with ⟨a, m, ⟨o, es, ep, e, r⟩, c⟩ | ⟨a, c, o, b, d, f⟩
  · exact .inl ⟨a, m, ⟨o, es, ep, hide_get e hl, r⟩, c⟩
  · exact .inr ⟨a, c, o, b, hide_get d (hc c a b), f⟩
theorem FrOk.hide {base : Heap} {X : Addr} {g : Gh} {h : Heap} {l : List Env} {oX : Obj} (k : FrOk base g h l) (hX : g X = some oX) : FrOk (base.hide X) (minus X g) (h.hide X) l := by
  obtain ⟨k1, k2⟩ := k
  refine ⟨?_, fun env he => ?_⟩
  · induction l with
    | nil => trivial
    | cons env r ih =>
      obtain ⟨q1, ⟨L, o, q2, q3, q4, q5⟩, q6⟩ := k1
      obtain ⟨L', o', es, ep, p1, p2, p3, p4⟩ := k2 env List.mem_cons_self
      rw [q2] at p1; cases p1
      have hne : L ≠ X := fun z => by rw [z, hX] at p4; cases p4
      exact ⟨q1, ⟨L, o, q2, hide_none q3, hide_get q4 hne, q5⟩, ih q6 fun e he => k2 e (List.mem_cons_of_mem _ he)⟩
  · obtain ⟨L, o, es, ep, p1, p2, p3, p4⟩ := k2 env he
    have hne : L ≠ X := fun z => by rw [z, hX] at p4; cases p4
    exact ⟨L, o, es, ep, p1, hide_get p2 hne, p3, minus_none p4⟩
theorem Ok.hide {base : Heap} {n : Nat} {A : Around} {g : Gh} {h : Heap} {X : Addr} {oX : Obj} (k : Mine.Ok base n A g h) (hX : base.get? X = some oX) : Mine.Ok (base.hide X) n A (minus X g) (h.hide X) :=
  ⟨fun b o e => let ⟨a, b⟩ := minus_some e; hide_get (k.sub _ _ b) a, fun b o e => let ⟨a, b⟩ := hide_some e; (minus_ne a).trans (k.gb _ _ b), k.handled, k.depth, k.units, let ⟨l, e1, e2⟩ := k.frames; ⟨l, e1, e2.hide (k.gb _ _ hX)⟩⟩
theorem GS.hide {base : Heap} {n : Nat} {A : Around} {env : Env} {h₀ : Heap} {g₀ g : Gh} {ρ : Rho} {ow : Ow} {h : Heap} {X : Addr} {oX : Obj} (k : GS base n A env h₀ g₀ g ρ ow h) (hX : base.get? X = some oX) (hcls : oX.cls = .none) :
    GS (base.hide X) n A env (h₀.hide X) (minus X g₀) (minus X g) ρ ow (h.hide X) := by
  have gX : g X = some oX := k.good.ok.gb _ _ hX
  have cX : ∀ o, g X = some o → o.cls = .none := fun o e => by rw [gX] at e; cases e; exact hcls
  have hl : env.locals ≠ X := fun z => by have := k.loc.1; rw [z, gX] at this; cases this
  have hcl : ∀ x c, env.kindOf x = some .cell → env.cells.lookup x = some c → c ≠ X := fun x c e1 e2 z => by
    obtain ⟨c', v, h1, h2, h3, h4⟩ := k.cel x e1
    rw [e2] at h1; cases h1
    rw [z, gX] at h3; cases h3
  refine ⟨⟨k.good.ok.hide hX, k.good.envok, fun y v hy => ?_⟩, fun b o e => ?_, fun b o e => ?_, fun b o e => ?_, ?_, fun y hy => ?_, k.inj, fun y l e => ?_⟩
  · obtain ⟨pv, a, b⟩ := k.good.names y v hy
    exact ⟨pv, a.hide hl (hcl y), b.minus cX⟩
  · obtain ⟨hb, e'⟩ := hide_some e
    obtain ⟨o', e1, e2⟩ := k.keep b o e'
    exact ⟨o', hide_get e1 hb, e2⟩
  · obtain ⟨hb, e'⟩ := minus_some e
    exact (minus_ne hb).trans (k.grow b o e')
  · obtain ⟨hb, e'⟩ := minus_some e
    exact (k.new b o e').imp (fun z => (minus_ne hb).trans z) hide_none
  · obtain ⟨a, b, m, o, es, ep, c, r⟩ := k.loc
    exact ⟨minus_none a, hide_none b, m, o, es, ep, hide_get c hl, r⟩
  · obtain ⟨c, v, h1, ⟨o, q1, q2⟩, h3, h4⟩ := k.cel y hy
    exact ⟨c, v, h1, ⟨o, hide_get q1 (hcl y c hy h1), q2⟩, minus_none h3, hide_none h4⟩
  · obtain ⟨a, items, h1, ⟨j, h2⟩, h3, h4, h5⟩ := k.own y l e
    have ha : a ≠ X := fun z => by rw [z, gX] at h4; cases h4
    exact ⟨a, items, h1.hide hl (hcl y), ⟨j, hide_get h2 ha⟩, h3.minus cX, minus_none h4, hide_none h5⟩
theorem ph1_ok {base : Heap} {X : Addr} {oX : Obj} (hX : base.get? X = some oX) (hcls : oX.cls = .none) : (ph1 X).Ok base where
  gs := fun k => k.hide hX hcls
  ok := fun k => k.hide hX
  rep := fun k r => r.minus fun o e => by rw [k.gb _ _ hX] at e; cases e; exact hcls
  step := fun s => ⟨fun b o e => let ⟨hb, e'⟩ := hide_some e; let ⟨o', e1, e2⟩ := s.ext b o e'; ⟨o', hide_get e1 hb, e2⟩, fun b o e => let ⟨hb, e'⟩ := minus_some e; (minus_ne hb).trans (s.grow b o e'),
    fun b o e => let ⟨hb, e'⟩ := minus_some e; (s.new b o e').imp (fun z => (minus_ne hb).trans z) hide_none, fun b o e => let ⟨hb, e'⟩ := minus_some e; hide_get (s.sub b o e') hb⟩
  kf := fun k b o vs e f => let ⟨hb, e'⟩ := hide_some e; ⟨hide_get (k b o vs e' f).1 hb, fun z => by
    have z' : minus _ _ b = none := z
    rw [minus_ne hb] at z'
    exact minus_none ((k b o vs e' f).2 z')⟩
  grow := fun hg b o e => let ⟨hb, e'⟩ := minus_some e; (minus_ne hb).trans (hg b o e')
  mono := fun hg h => let ⟨ps, e⟩ := h; ⟨ps, hg _ _ e⟩

/-- a heap that holds just the ghost -/
theorem heap_of {g : Gh} {h : Heap} (s : Sub g h) : ∃ base : Heap, ∀ b, base.get? b = g b := by
  classical
  refine ⟨hideAll h ((List.range h.objs.size).filter fun b => g b = none), fun b => ?_⟩
  cases q : g b with
  | some o => exact hideAll_get _ (s b o q) (by simp [q])
  | none =>
    cases e : (hideAll h ((List.range h.objs.size).filter fun b => g b = none)).get? b with
    | none => rfl
    | some o =>
      have hb := of_hideAll _ e
      have hm : b ∈ (List.range h.objs.size).filter fun b => g b = none := by simp [q, Heap.lt_size hb]
      rw [hideAll_none _ hm] at e; cases e
theorem FrOk.rebase {base base' : Heap} {g : Gh} {h : Heap} {l : List Env} (k : FrOk base g h l) (hb : ∀ b, base'.get? b = g b) : FrOk base' g h l := by
  obtain ⟨k1, k2⟩ := k
  refine ⟨?_, k2⟩
  induction l with
  | nil => trivial
  | cons env r ih =>
    obtain ⟨q1, ⟨L, o, q2, q3, q4, q5⟩, q6⟩ := k1
    obtain ⟨L', o', es, ep, p1, p2, p3, p4⟩ := k2 env List.mem_cons_self
    rw [q2] at p1; cases p1
    exact ⟨q1, ⟨L, o, q2, (hb L).trans p4, q4, q5⟩, ih q6 fun e he => k2 e (List.mem_cons_of_mem _ he)⟩
theorem GS.rebase {base base' : Heap} {n : Nat} {A : Around} {env : Env} {h₀ : Heap} {g₀ g : Gh} {ρ : Rho} {ow : Ow} {h : Heap} (k : GS base n A env h₀ g₀ g ρ ow h) (hb : ∀ b, base'.get? b = g b) : GS base' n A env h₀ g₀ g ρ ow h :=
  ⟨⟨⟨k.good.ok.sub, fun b o e => (hb b).symm.trans e, k.good.ok.handled, k.good.ok.depth, k.good.ok.units, let ⟨l, e1, e2⟩ := k.good.ok.frames; ⟨l, e1, e2.rebase hb⟩⟩, k.good.envok, k.good.names⟩, k.keep, k.grow, k.new, k.loc, k.cel, k.inj, k.own⟩

theorem Wd.mono {GL : Str → Option Value} {base base' : Heap} (W : Wd GL base) (hb : base.StaysIn base') : Wd GL base' where
  load := fun M A E Q s env x v h st => W.load M A E Q s env x v h fun b o e => st b o (hb b o e)
  nolimit := W.nolimit.keeps hb
theorem Fn.mono {base base' : Heap} {f : Addr} {fd : FuncData} {body : List Stmt} (F : Fn base f fd body) (hb : base.StaysIn base') : Fn base' f fd body :=
  ⟨let ⟨o, e, r⟩ := F.obj; ⟨o, hb _ _ e, r⟩, F.code.keeps hb, F.body, F.clo, F.glob, F.bui⟩
theorem DefAt.mono {GL : Str → Option Value} {base base' : Heap} {name : Str} {i : Nat} {names : List Str} (D : DefAt GL base name i names) (hb : base.StaysIn base') : DefAt GL base' name i names :=
  let ⟨f, h1, fd, F, h2, h3⟩ := D; ⟨f, h1, fd, F.mono hb, h2, fun s xs st => h3 s xs fun b o e => st b o (hb b o e)⟩
theorem Tops.mono {GL : Str → Option Value} {base base' : Heap} (T : Tops GL base) (hb : base.StaysIn base') : Tops GL base' where
  W := T.W.mono hb
  len := T.len
  sum := T.sum
  range := T.range
  str := T.str
  enumerate := T.enumerate
  table := let ⟨v, e, r⟩ := T.table; ⟨v, e, r.mono hb⟩
  ifmt := T.ifmt.mono hb
  filemode := T.filemode.mono hb
  clause := T.clause.mono hb
  written := T.written.mono hb
  worths := T.worths.mono hb
  seen := T.seen.mono hb
  step := T.step.mono hb
  traced := T.traced.mono hb
  due := T.due.mono hb
  spot := T.spot.mono hb
  fault := T.fault.mono hb
end Mine
end
section
open PySem PySem.W PyProof.Rows PySem.Calls PySem.SeqAt
set_option maxRecDepth 100000
namespace Mine

noncomputable def headSt : List Stmt → Stmt
  | st :: _ => st
  | [] => prog.main.body.headD (.Pass ⟨0, 0, 0, 0⟩)
noncomputable def tailSt : List Stmt → List Stmt
  | _ :: r => r
  | [] => []
/-- the inner def of suffixed_err -/
noncomputable def stIn : Stmt := headSt (bodyOf (stAt 11))
noncomputable def paramsIn : Stmt → Arguments
  | .FunctionDef _ args .. => args
  | _ => ⟨[], [], none, [], [], none, []⟩
noncomputable def posIn : Stmt → Pos
  | .FunctionDef _ _ _ _ _ _ _ _ _ pos => pos
  | _ => ⟨0, 0, 0, 0⟩

noncomputable def coordOf (l c : Nat) : Str := glueL Str.empty ["line ", (toString (l : Int) : Str), ", column ", (toString (c : Int) : Str)]
noncomputable def errText (msg : Str) (l c : Nat) : Str := glueL Str.empty [msg, " (at ", coordOf l c, ")"]
theorem log_small {k : Nat} (h : k < 1000) : (k : Int).natAbs.log2 < 1920 := by
  rw [Int.natAbs_natCast]
  by_cases h0 : k = 0
  · subst h0; decide
  · rw [Nat.log2_lt h0]
    exact Nat.lt_of_lt_of_le h (Nat.le_trans (show 1000 ≤ 2 ^ 10 by decide) (Nat.pow_le_pow_right (by decide) (by decide)))
/-- line and column of a place -/
structure CoordAt (x : Str) (p l c : Nat) : Prop where
  inn : p < x.length
  len : x.length < 300
  line : (Builtin.Str.occurrences x "\n" 0 (min p x.length) (x.length + 1)).length + 1 = l
  lsmall : l < 400
  csmall : c < 400
  one : l = 1 → c = p + 1
  more : l ≠ 1 → ∃ k, Builtin.Str.lastOccurrence x "\n" 0 (min p x.length) = some k ∧ k + c = p

section
variable {w : World} {base : Heap} {n : Nat} {sc : Scope} {ρ ρ' : Rho} {ow ow' : Ow} {GL : Str → Option Value}
theorem coord_len {l c : Nat} (hl : l < 400) (hc : c < 400) : (coordOf l c).length ≤ 30 := by
  unfold coordOf
  rw [glueL_len]
  simp only [List.map_cons, List.map_nil, List.sum_cons, List.sum_nil]
  have e1 := ts_len l hl
  have e2 := ts_len c hc
  have e3 : ("line " : Str).length = 5 := rfl
  have e4 : (", column " : Str).length = 9 := rfl
  have e5 : Str.empty.length = 0 := rfl
  omega
theorem b_coord (T : Tops GL base) {x : Str} {p l c : Nat} (h : CoordAt x p l c) : sxs w base n (scopeOf stIn) [("src", .str x), ("pos", .int p)] none (bodyOf stIn) (.ret (.str (coordOf l c))) := by
  have hz : sizeLine = 16777216 := by decide
  have hp := h.inn
  have hx := h.len
  have h1 := h.lsmall
  have h2 := h.csmall
  refine sxs.cons (ρ' := [("src", .str x), ("pos", .int p)]) (ow' := none) (sx.no (tv.to (tv.cmp (ev.name rfl) (ev.cg T.W (evs.cons (ev.name rfl) evs.nil) (CG.lenS T (by omega))) P2.gei PB.bool) (by simpa using hp)) sxs.nil) ?_
  refine sxs.cons (sx.assign (v := .int l) (ev.to (ev.binop (ev.methS F.slot_str_count F.type_str_count (ev.name rfl) (evs.cons ev.str (evs.cons ev.int (evs.cons (ev.name rfl) evs.nil))) (CON.count4 (i := 0))) ev.int P2.add) (by rw [← h.line]; rfl)) rfl) ?_
  refine sxs.cons (ow' := none) (ρ' := [("column", .int c), ("line", .int l)]) (sx.ite (b := decide (l = 1)) (tv.to (tv.cmp (ev.name rfl) ev.int P2.eqi PB.bool) (by
    by_cases h0 : l = 1
    · subst h0; rfl
    · rw [decide_eq_false h0]
      have : ((l : Int) == 1) = false := by rw [beq_eq_false_iff_ne]; omega
      exact this)) (fun hb => ?_) (fun hb => ?_)) ?_
  · have e := h.one (of_decide_eq_true hb)
    exact sxs.out (Le.cons rfl (Le.cons rfl Le.nil)) (sxs.one (sx.assign (v := .int c) (ev.to (ev.binop (ev.name rfl) ev.int P2.add) (by rw [e]; rfl)) rfl))
  · obtain ⟨k, e1, e2⟩ := h.more (of_decide_eq_false hb)
    exact sxs.out (Le.cons rfl (Le.cons rfl Le.nil)) (sxs.one (sx.assign (v := .int c) (ev.to (ev.binop (ev.name rfl) (ev.methS F.slot_str_rindex F.type_str_rindex (ev.name rfl) (evs.cons ev.str (evs.cons ev.int (evs.cons (ev.name rfl) evs.nil))) (CON.rindex4 (i := 0) e1)) P2.sub) (by congr 1; omega)) rfl))
  · refine sxs.ret (sx.ret (ev.joined (xs := ["line ", (toString (l : Int) : Str), ", column ", (toString (c : Int) : Str)]) (.cons ev.str (.cons (ev.fmtI (ev.name rfl) (log_small (by omega))) (.cons ev.str (.cons (ev.fmtI (ev.name rfl) (log_small (by omega))) .nil)))) ?_))
    have := coord_len h1 h2
    unfold coordOf at this
    rw [glueL_len] at this
    have e5 : Str.empty.length = 0 := rfl
    omega

/-- the own class of exceptions -/
structure ErrCls (base : Heap) (C : Addr) : Prop where
  ex : ∃ nm q N bs hdct sn sub ab col dd k0 k1 k2 k3 k5 mN, base.get? C = some (excClassObj nm q C N bs [.type "ValueError", .type "Exception", .type "BaseException", .type "object"] hdct sn sub ab col dd k0 k1 k2 k3 k5 "ValueError.__new__") ∧ base.Ns N mN ∧ mN "__init__" = none ∧ mN "__str__" = none
theorem ErrCls.mono {base base' : Heap} {C : Addr} (k : ErrCls base C) (hb : base.StaysIn base') : ErrCls base' C :=
  ⟨let ⟨nm, q, N, bs, hdct, sn, sub, ab, col, dd, k0, k1, k2, k3, k5, mN, e1, e2, r⟩ := k.ex; ⟨nm, q, N, bs, hdct, sn, sub, ab, col, dd, k0, k1, k2, k3, k5, mN, hb _ _ e1, e2.keeps hb, r⟩⟩
/-- an exception just made -/
noncomputable def FreshAt (h : Heap) (x : Addr) (cls : Value) : Prop := ∃ t, h.get? x = some { cls := cls, data := .fields #[.ref t, .none, .none, .none, .bool false, .none] }
theorem ErrCls.calls {C : Addr} (k : ErrCls base C) : Calls base (.ref C) := fun M h st => by
  obtain ⟨nm, q, N, bs, hdct, sn, sub, ab, col, dd, k0, k1, k2, k3, k5, mN, e1, e2, e3, e4⟩ := k.ex
  exact ⟨.machine, .inr (.inl rfl), fun A Q E s st' hq => wpAny_keeperOf_exc (st' _ _ (st _ _ e1)) hq⟩
theorem ErrCls.call {C : Addr} (k : ErrCls base C) {A : Around} {g : Gh} {s : Shared} {xs : List Value} {as : List PV} {Q E : Value → Shared → Prop} (ok : Ok base n A g s.heap) (rx : RepL g as xs) (hz : as.length ≤ sizeLine)
    (hq : ∀ x h' g', Step g g' s.heap h' → Fly s.heap s.heap g' h' x (.ref C) (some as) none → FreshAt h' x (.ref C) → Q (.ref x) { s with heap := h' }) : wpAny (MD w) A (call (.ref C) xs) Q E s := by
  obtain ⟨nm, q, N, bs, hdct, sn, sub, ab, col, dd, k0, k1, k2, k3, k5, mN, e1, e2, e3, e4⟩ := k.ex
  refine wpAny_call_exc_sub F.excBase_ValueError (ok.stays _ _ e1) (e2.keeps ok.stays) e3 (fun h' e m => ?_) (by rw [rx.length]; exact hz)
  obtain ⟨t, t1, t2, t3⟩ := m.there
  have hte : t ≠ e := fun z => by rw [z, t1] at t3; cases t3
  have gt : g t = none := sub_none ok.sub t2
  have ge : g e = none := sub_none ok.sub m.new
  have hg : ∀ b o, g b = some o → (fun b => if b = t then some ({ cls := .type "tuple", data := .seq xs.toArray } : Obj) else g b) b = some o := fun b o z => by
    have : b ≠ t := fun y => by rw [y, gt] at z; cases z
    simp only [this, if_false]; exact z
  refine hq e h' (fun b => if b = t then some ({ cls := .type "tuple", data := .seq xs.toArray } : Obj) else g b) ⟨Soft.of_ext m.keeps, hg, fun b o z => ?_, fun b o z => ?_⟩ ⟨⟨m.new, ?_, fun o vs z => by rw [m.new] at z; cases z⟩, _, _, _, t1, rfl, rfl, rfl, fun l z => ?_, rfl⟩ ⟨t, t1⟩
  · by_cases y : b = t
    · exact .inr (y ▸ t2)
    · simp only [y, if_false] at z; exact .inl z
  · by_cases y : b = t
    · subst y; simp only [if_true] at z; cases z; exact t3
    · simp only [y, if_false] at z; exact m.keeps _ _ (ok.sub _ _ z)
  · simp only [Ne.symm hte, if_false]; exact ge
  · cases z
    simp only [Rep]
    exact ⟨t, _, 0, xs.toArray, rfl, if_pos rfl, rfl, rfl, by simpa using rx.mono hg⟩
end
end Mine
end
section
open PySem PySem.W PyProof.Rows PySem.Calls PySem.SeqAt
set_option maxRecDepth 100000
namespace Mine

/-- a call gives an exception of its own making -/
noncomputable def CONE (ph : Ph) (w : World) (base : Heap) (n : Nat) (f : Value) (as : List PV) (cls : Value) (args : Option (List PV)) : Prop := ∀ (A : Around) (g : Gh) (s : Shared) (xs : List Value), Ok base n A g s.heap → RepL g as xs → ∀ (Q E : Value → Shared → Prop),
  (∀ x h' tk g', Step (ph.g g) g' (ph.h s.heap) h' → ph.P g' → Fly (ph.h s.heap) (ph.h s.heap) g' h' x cls args none → FreshAt h' x cls → Q (.ref x) { s with heap := h', toks := tk }) → wpAny (MD w) A (call f xs) Q E s

structure SfxAt (GL : Str → Option Value) (base : Heap) (X : Addr) : Prop where
  f : ∃ f fd c mg, GL "suffixed_err" = some (.ref f) ∧ Fn base f fd (bodyOf (stAt 11)) ∧ fd.scope = scopeOf (stAt 11) ∧ (∀ (s : Shared) (xs : List Value), base.StaysIn s.heap → xs.length = 3 → BindsTo s fd ⟨xs, []⟩ ((["src", "pos", "msg"] : List Str).zip xs)) ∧
    fd.code = .ref c ∧ (base.IsCode c X #[] ∧ base.TableAt c X #[]) ∧ base.Ns mainGlobals mg ∧ base.BuiltinsAt mg X ∧ mainGlobals ≠ X
  tab : ∃ oX, base.get? X = some oX ∧ oX.cls = .none

theorem mf_X {M : Model} {A : Around} {E : Value → Shared → Prop} {s : Shared} {name qualname : Str} {params : Arguments}
    {body : List Stmt} {scope : Scope} {env : Env} {mg} {c Pl : Addr} {ps : Array Value} {pos : Pos} {firstLine : Nat} {Q : Value → Shared → Prop} (hfree : ∀ x ∈ scope.names, x.2 ≠ .free)
    (hdoc : docOf body = none) (hg : s.heap.Ns env.globals mg) (hcode : env.code = .ref c) (hok : s.heap.IsCode c Pl ps) (htab : s.heap.TableAt c Pl ps) (hnf : codeAmong pos ps.toList = none) (hgP : env.globals ≠ Pl)
    (hb : s.heap.BuiltinsAt mg Pl)
    (h : ∀ c' h' tk, Heap.ExtBut Pl s.heap h' → s.heap.objs.size ≤ c' → c' < h'.objs.size → (∃ ps' : Array Value, h'.get? Pl = some { cls := .none, data := .fields ps' }) → h'.CodeRec (.ref c') qualname →
      Q (.ref h'.objs.size) { s with heap := h'.push { cls := .type "function", data := .func (
        { name, qualname, params, body := .stmts body, scope, globals := env.globals, closure := [], defaults := .none, kwdefaults := .none,
          pyModule := (mg "__name__").getD .none, code := .ref c', builtins := builtinsNs } : FuncData) }, toks := tk }) :
    wpAny M A (makeFunction name qualname params (.stmts body) scope env [] [] [] pos firstLine) Q E s := by
  have hc : closureFor scope env = pure [] := closureFor_none hfree
  simp only [makeFunction, List.zip_nil_right, List.filterMap_nil, List.isEmpty_nil, if_true, pure_bind, hc, hdoc]
  refine wpAny_bind (wpAny_functionCodeX hcode hok htab hnf fun c' h' tk hx hge hlt hok' hrec htab' _ => ?_)
  obtain ⟨bm, o, hbm, hne0, _, hneP, hbo, hcls, hdict, hdata⟩ := hb
  have hg' := hg.extBut hx hgP
  refine wpAny_bind (wpAny_builtinsFor hg' hbm hne0 (hx _ _ hneP hbo) hcls hdict hdata ?_)
  refine wpAny_bind (wpAny_nsGet hg' ?_)
  simp only [newObj]
  exact wpAny_bind (wpAny_alloc (wpAny_pure (h c' h' tk hx hge hlt ⟨_, htab'.2⟩ hrec)))
theorem in_exec (env : Env) : exec stIn env = (do
    standAt (posIn stIn)
    let f ← holding [] (makeFunction "coord_repr" (qualnameIn env "coord_repr" "coord_repr") (paramsIn stIn) (.stmts (bodyOf stIn)) (scopeOf stIn) env [] [] [] (posIn stIn) (posIn stIn).line)
    standAt (posIn stIn)
    bindName env "coord_repr" f
    pure .next) := rfl

section
variable {w : World} {base : Heap} {n : Nat} {sc : Scope} {ρ ρ' : Rho} {ow ow' : Ow} {GL : Str → Option Value}
theorem c_sfx {X C : Addr} (S : SfxAt GL base X) (T : Tops GL (base.hide X)) (hE : GL "TOMLDecodeError" = some (.ref C)) (K : ErrCls (base.hide X) C) {x msg : Str} {p l c : Nat} (h : CoordAt x p l c) (hm : msg.length ≤ 100) :
    ∃ f, GL "suffixed_err" = some (.ref f) ∧ Calls base (.ref f) ∧ CONE (ph1 X) w base (n + 2) (.ref f) [.str x, .int p, .str msg] (.ref C) (some [.str (errText msg l c)]) := by
  obtain ⟨f, fd, cA, mg, e1, F, e2, hb, e3, ⟨hcode, htab⟩, hmg, hbu, hne⟩ := S.f
  obtain ⟨oX, hX, hcls⟩ := S.tab
  refine ⟨f, e1, F.calls, fun A g s xs ok rx Q E hq => ?_⟩
  have hsub : (base.hide X).StaysIn base := fun b o e => (hide_some e).2
  have hl : xs.length = (["src", "pos", "msg"] : List Str).length := rx.length
  have hok : fnOk fd.scope ["src", "pos", "msg"] = true := by rw [e2]; decide
  refine enter (a := ⟨xs, []⟩) (T.W.mono hsub) F hok ok hl rx (hb s xs ok.stays hl) fun s₁ tk₁ h₁ es G => ?_
  have hsc : (callEnvC fd s.heap.objs.size f).scope = scopeOf (stAt 11) := e2
  have hcd : (callEnvC fd s.heap.objs.size f).code = .ref cA := e3
  generalize callEnvC fd s.heap.objs.size f = env at G hsc hcd ⊢
  show wpAny _ _ (execs (stIn :: tailSt (bodyOf (stAt 11))) env) _ _ _
  refine wpAny_execs_cons ?_
  rw [in_exec]
  have stay := G.good.ok.stays
  refine wpAny_bind (wpAny_standAt (wpAny_bind (wpAny_holding (mf_X (c := cA) (Pl := X) (ps := #[]) (mg := mg) (by decide) rfl (by rw [G.good.envok.globals]; exact hmg.keeps stay) hcd (hcode.keeps stay) (htab.keeps stay) rfl (by rw [G.good.envok.globals]; exact hne)
    (let ⟨bm, o, q1, q2, q3, q4, q5, q6⟩ := hbu; ⟨bm, o, q1, q2, q3, q4, stay _ _ q5, q6⟩) fun c' h' tk hx hge hlt hX' hrec => ?_))))
  generalize hfo : ({ cls := .type "function", data := .func _ } : Obj) = fo
  have hfd : ∃ fd', fo.data = .func fd' ∧ fd'.code = .ref c' ∧ fd'.qualname = qualnameIn env "coord_repr" "coord_repr" ∧ fd'.body = .stmts (bodyOf stIn) ∧ fd'.closure = [] ∧ fd'.globals = mainGlobals ∧ fd'.builtins = builtinsNs ∧ fd'.scope = scopeOf stIn ∧ (∀ (s : Shared) (xs : List Value), xs.length = 2 → BindsTo s fd' ⟨xs, []⟩ ((["src", "pos"] : List Str).zip xs)) := by
    subst hfo
    refine ⟨_, rfl, rfl, rfl, rfl, rfl, G.good.envok.globals, rfl, rfl, fun s xs hxs => ?_⟩
    match xs, hxs with
    | [a, b], _ => exact BindsTo.of_eq rfl
  obtain ⟨fd', d1, d2, d3, d4, d5, d6, d7, d8, d9⟩ := hfd
  have hff : fo.isFreed = false := by subst hfo; rfl
  have hcs : s₁.heap.get? c' = none := Heap.get?_none_of_le hge
  have hfs : s₁.heap.get? h'.objs.size = none := Heap.get?_none_of_le (Nat.le_trans hge (Nat.le_of_lt hlt))
  have hcf : c' ≠ h'.objs.size := Nat.ne_of_lt hlt
  have gXX : g X = some oX := G.good.ok.gb _ _ hX
  have hXs : s₁.heap.get? X = some oX := G.good.ok.sub _ _ gXX
  have hXf : X ≠ h'.objs.size := fun z => by rw [← z, hXs] at hfs; cases hfs
  have hXc : X ≠ c' := fun z => by rw [← z, hXs] at hcs; cases hcs
  let g2 : Gh := fun b => if b = h'.objs.size then some fo else if b = c' then h'.get? c' else if b = X then h'.get? X else minus X g b
  have g2f : g2 h'.objs.size = some fo := if_pos rfl
  have g2c : g2 c' = h'.get? c' := by show (if c' = _ then _ else _) = _; rw [if_neg hcf, if_pos rfl]
  have g2o : ∀ b o, minus X g b = some o → g2 b = some o := fun b o z => by
    have q := G.good.ok.sub b o (minus_some z).2
    have n1 : b ≠ h'.objs.size := fun y => by rw [y, hfs] at q; cases q
    have n2 : b ≠ c' := fun y => by rw [y, hcs] at q; cases q
    have n3 : b ≠ X := (minus_some z).1
    show (if _ then _ else _) = _
    rw [if_neg n1, if_neg n2, if_neg n3]; exact z
  have st : Step (minus X g) g2 (s₁.heap.hide X) (h'.push fo) := by
    refine ⟨Soft.of_ext fun b o e => ?_, g2o, fun b o z => ?_, fun b o z => ?_⟩
    · obtain ⟨q1, q2⟩ := hide_some e
      exact Heap.get?_push_of_some _ (hx b o q1 q2)
    · by_cases n1 : b = h'.objs.size
      · exact .inr (n1 ▸ hide_none hfs)
      · by_cases n2 : b = c'
        · exact .inr (n2 ▸ hide_none hcs)
        · by_cases n3 : b = X
          · right; rw [n3, Heap.hide_self]
          · left
            have z' : (if b = _ then _ else if b = c' then _ else if b = X then _ else minus X g b) = some o := z
            rw [if_neg n1, if_neg n2, if_neg n3] at z'; exact z'
    · by_cases n1 : b = h'.objs.size
      · subst n1
        rw [g2f] at z; cases z
        exact Heap.get?_push_size _ hff
      · by_cases n2 : b = c'
        · subst n2
          rw [g2c] at z
          exact Heap.get?_push_of_some _ z
        · by_cases n3 : b = X
          · have z' : (if b = _ then _ else if b = c' then _ else if b = X then _ else minus X g b) = some o := z
            rw [if_neg n1, if_neg n2, if_pos n3] at z'
            rw [n3]
            exact Heap.get?_push_of_some _ z'
          have z' : (if b = _ then _ else if b = c' then _ else if b = X then _ else minus X g b) = some o := z
          rw [if_neg n1, if_neg n2, if_neg n3] at z'
          obtain ⟨q1, q2⟩ := minus_some z'
          exact Heap.get?_push_of_some _ (hx b o q1 (G.good.ok.sub b o q2))
  have P2 : (ph1 X).P g2 := by
    obtain ⟨ps', q⟩ := hX'
    refine ⟨ps', ?_⟩
    show (if X = _ then _ else if X = c' then _ else if X = X then _ else _) = _
    rw [if_neg hXf, if_neg hXc, if_pos rfl]; exact q
  have G2 := (G.hide hX hcls).step st
  refine wpAny_bind (wpAny_standAt (wpAny_bind (wpAny_bindName ?_)))
  refine G2.bind (s := { s₁ with heap := h'.push fo, toks := tk }) (x := "coord_repr") (v := .ref (.ref h'.objs.size)) (by rw [hsc]; rfl) repR fun h₃ tk₃ G3 kf3 => ?_
  refine wpAny_pure ?_
  obtain ⟨base3, hb3⟩ := heap_of G3.good.ok.sub
  have G3' := G3.rebase hb3
  have hs3 : (base.hide X).StaysIn base3 := fun b o e => (hb3 b).trans (G3.good.ok.gb b o e)
  have T3 := T.mono hs3
  have K3 := K.mono hs3
  have F3 : Fn base3 h'.objs.size fd' (bodyOf stIn) := by
    refine ⟨⟨fo, (hb3 _).trans g2f, d1⟩, ?_, d4, d5, d6, d7⟩
    rw [d2, d3]
    obtain ⟨c₂, o₂, vs₂, t₂, r1, r2, r3⟩ := hrec
    cases r1
    exact ⟨_, o₂, vs₂, t₂, rfl, (hb3 _).trans (g2c.trans r2), r3⟩
  have CC : CON w base3 (n + 1) (.ref h'.objs.size) [.str x, .int p] (.str (coordOf l c)) := by
    refine CON.fn T3.W F3 (names := ["src", "pos"]) (by rw [d8]; decide) rfl (fun s xs _ hxs => d9 s xs hxs) ?_
    rw [d8]
    exact (b_coord T3 h).raw
  show wpAny _ _ (execs (headSt (tailSt (bodyOf (stAt 11))) :: []) env) _ _ _
  refine wpAny_execs_cons (wpAny_Return_some ?_)
  show wpAny _ _ (do callWith _ (← eval (.Name "TOMLDecodeError" _) env) [] (backTo _ (starEach [_] env)) (backToKw _ (keywordEach [] env))) _ _ _
  refine wpAny_bind ((ev.glob T3.W hE (by rfl) (by decide)).raw _ env g2 { s₁ with heap := h₃, toks := tk₃ } hsc G3'.good _ _ fun fv h₄ tk₄ g₄ st₄ rf => ?_)
  obtain rfl := unR rf
  have G4 := G3'.step st₄
  have hz : sizeLine = 16777216 := by decide
  have hcl := coord_len h.lsmall h.csmall
  refine callWith_vals K3.calls hsc G4.good (vs := [.str (errText msg l c)]) (evs.cons (ev.joined (xs := [msg, " (at ", coordOf l c, ")"]) (.cons (ev.fmtS (ev.name rfl) (by omega)) (.cons ev.str (.cons (ev.fmtS (ev.call (ev.name rfl) F3.calls (evs.cons (ev.name rfl) (evs.cons (ev.name rfl) evs.nil)) CC) (by omega)) (.cons ev.str .nil)))) ?_) evs.nil).raw rfl ⟨_, _, rfl⟩ fun ys h₅ tk₅ g₅ st₅ ry => ?_
  · simp only [List.map_cons, List.map_nil, List.sum_cons, List.sum_nil]
    have q1 : (" (at " : Str).length = 5 := rfl
    have q2 : (")" : Str).length = 1 := rfl
    omega
  have G5 := G4.step st₅
  refine K3.call G5.good.ok ry (by show 1 ≤ sizeLine; decide) fun e h₆ g₆ st₆ y fr => ?_
  subst es
  have G6 := G5.step st₆
  exact hq e h₆ _ g₆ ⟨G6.keep, G6.grow, G6.new, G6.good.ok.sub⟩ (let ⟨ps', q⟩ := P2; ⟨ps', st₆.grow _ _ (st₅.grow _ _ (st₄.grow _ _ q))⟩) (y.out (fun _ => G5.keep.none) (fun _ => G5.keep.none)) fr
end
end Mine
end
section
open PySem PySem.W PyProof.Rows PySem.Calls PySem.SeqAt
set_option maxRecDepth 100000
namespace Mine

/-- e gives an exception of its own making -/
structure eve (ph : Ph) (w : World) (base : Heap) (n : Nat) (sc : Scope) (ρ : Rho) (e : Expr) (cls : Value) (args : Option (List PV)) : Prop where
  raw : ∀ (A : Around) (env : Env) (g : Gh) (s : Shared), env.scope = sc → Good base n A env g ρ s.heap → ∀ (Q E : Value → Shared → Prop),
    (∀ x h' tk g', Step (ph.g g) g' (ph.h s.heap) h' → ph.P g' → Fly (ph.h s.heap) (ph.h s.heap) g' h' x cls args none → FreshAt h' x cls → Q (.ref x) { s with heap := h', toks := tk }) → wpAny (MD w) A (eval e env) Q E s

section
variable {ph : Ph} {w : World} {base : Heap} [hp : ph.Ok base] {n : Nat} {sc : Scope} {ρ ρ' : Rho} {ow ow' : Ow} {GL : Str → Option Value} {cls : Value} {args : Option (List PV)}
theorem eve.call {x : Str} {p pos : Pos} {es : List Expr} {f : Value} {vs : List PV} (hf : ev w base n sc ρ (.Name x p) (.ref f)) (hk : Calls base f) (ha : evs w base n sc ρ es vs) (hc : CONE ph w base n f vs cls args)
    (hpl : ∀ env, (backTo pos (starEach es env)).any (·.1) = false := by intros; rfl) (hne : ∀ env, ∃ x r, backTo pos (starEach es env) = x :: r := by intros; exact ⟨_, _, rfl⟩) : eve ph w base n sc ρ (.Call (.Name x p) es [] pos) cls args :=
  ⟨fun A env g s hs G Q E hq => by
    show wpAny _ _ (do callWith pos (← eval (.Name x p) env) [] (backTo pos (starEach es env)) (backToKw pos (keywordEach [] env))) Q E s
    refine wpAny_bind (hf.raw A env g s hs G _ _ fun fv h₁ tk₁ g₁ st₁ rf => ?_)
    obtain rfl := unR rf
    exact callWith_vals hk hs (G.step st₁) ha.raw (hpl env) (hne env) fun xs h₂ tk₂ g₂ st₂ rx => hc A g₂ _ xs ((G.step st₁).step st₂).ok rx _ _ fun e h₃ tk₃ g₃ st₃ hP y fr =>
      hq e h₃ tk₃ g₃ ((hp.step (st₁.trans st₂)).trans st₃) hP (y.less (hp.step (st₁.trans st₂)).ext) fr⟩
theorem xs.raiseE {C : Addr} {e : Expr} {pos : Pos} (K : ErrCls (ph.b base) C) (h : eve ph w base n sc ρ e (.ref C) args) : xs ph w base n sc ρ ow (.Raise (some e) none pos) (.exc ρ ow (.ref C) args) :=
  ⟨fun A env h₀ g₀ g s hs ha G Q E hq => by
    obtain ⟨nm, q, N, bs, hdct, sn, sub, ab, col, dd, k0, k1, k2, k3, k5, mN, e1, e2, e3, e4⟩ := K.ex
    rw [arm_exec_Raise]
    refine wpAny_bind (wpAny_standAt ?_)
    show wpAny _ _ (raiseStmt env (some (do let v ← eval e env; standAt pos; pure v)) none) _ _ _
    refine wpAny_raiseStmt_made_sub (C := C) (nm := nm) (q := q) (N := N) (bs := bs) (hdct := hdct) (sn := sn) (sub := sub) (ab := ab) (col := col) (dd := dd) (k0 := k0) (k1 := k1) (k2 := k2) (k3 := k3) (k5 := k5) (newId := "ValueError.__new__") F.excBase_ValueError.hasBase G.good.ok.handled (wpAny_bind (h.raw A env g s hs G.good _ _ fun x h' tk g' st hP y fr => wpAny_bind (wpAny_standAt (wpAny_pure ?_))))
    have G' := (hp.gs G).step st
    obtain ⟨t, ft⟩ := fr
    exact ⟨x, t, rfl, G'.good.ok.stays _ _ e1, ft, hq x h' tk g' (.of (hp.gs G) st (.inl rfl) y) hP⟩⟩

/-- a call with words -/
noncomputable def CONK (w : World) (base : Heap) (n : Nat) (f : Value) (as : List PV) (kn : List Str) (ks : List PV) (r : PV) : Prop := ∀ (A : Around) (g : Gh) (s : Shared) (xs ys : List Value), Ok base n A g s.heap → RepL g as xs → RepL g ks ys → Y (MD w) A (call f xs (kn.zip ys)) g s r
noncomputable def CONKR (ph : Ph) (w : World) (base : Heap) (n : Nat) (f : Value) (as : List PV) (kn : List Str) (ks : List PV) (cls : Value) (args : Option (List PV)) : Prop := ∀ (A : Around) (g : Gh) (s : Shared) (xs ys : List Value), Ok base n A g s.heap → RepL g as xs → RepL g ks ys → ∀ (Q E : Value → Shared → Prop), Raised ph g s cls args E → wpAny (MD w) A (call f xs (kn.zip ys)) Q E s
omit hp in
theorem kwCall {f : Value} {es : List Expr} {e1 e2 : Expr} {k1 k2 : Str} {q1 q2 : Pos} {vs : List PV} {v1 v2 : PV} {env : Env} {A : Around} {g : Gh} {s : Shared} {pos : Pos} {Q E : Value → Shared → Prop} (hf : Calls base f) (hs : env.scope = sc) (G : Good base n A env g ρ s.heap) (ha : evs w base n sc ρ es vs) (h1 : ev w base n sc ρ e1 v1) (h2 : ev w base n sc ρ e2 v2)
    (hp : (backTo pos (starEach es env)).any (·.1) = false) (hne : ∃ x r, backTo pos (starEach es env) = x :: r) (h : ∀ xs ys h' tk g', Step g g' s.heap h' → RepL g' vs xs → RepL g' [v1, v2] ys → wpAny (MD w) A (call f xs ([k1, k2].zip ys)) Q E { s with heap := h', toks := tk }) :
    wpAny (MD w) A (callWith pos f [] (backTo pos (starEach es env)) (backToKw pos (keywordEach [⟨some k1, e1, q1⟩, ⟨some k2, e2, q2⟩] env))) Q E s := by
  refine callWith_of (P := fun h => base.StaysIn h) (by rw [hp]; rfl) (fun h st => hf _ h st) ?_
  have key : wpAny (MD w) A (spliced (backTo pos (starEach es env))) (fun vs' s₁ => wpAny (MD w) A (evalAll ((backToKw pos (keywordEach [⟨some k1, e1, q1⟩, ⟨some k2, e2, q2⟩] env)).map (·.2))) (fun ks s₂ => base.StaysIn s₂.heap ∧ wpAny (MD w) A (call f ([] ++ vs') ([k1, k2].zip ks)) Q E s₂) E s₁) E s := by
    refine ha.raw A env g s pos hs G _ _ fun xs h₁ tk₁ g₁ st₁ rx => ?_
    have G₁ := G.step st₁
    show wpAny _ _ (evalAll [(do let v ← eval e1 env; standAt pos; pure v), (do let v ← eval e2 env; standAt pos; pure v)]) _ _ _
    refine wpAny_evalAll_cons (wpAny_bind (h1.raw A env g₁ _ hs G₁ _ _ fun a h₂ tk₂ g₂ st₂ ra => wpAny_bind (wpAny_standAt (wpAny_pure ?_))))
    have G₂ := G₁.step st₂
    refine wpAny_evalAll_cons (wpAny_bind (h2.raw A env g₂ _ hs G₂ _ _ fun b h₃ tk₃ g₃ st₃ rb => wpAny_bind (wpAny_standAt (wpAny_pure ?_))))
    refine wpAny_evalAll_nil ⟨(G₂.step st₃).ok.stays, ?_⟩
    exact h xs [a, b] h₃ tk₃ g₃ ((st₁.trans st₂).trans st₃) ((rx.mono st₂.grow).mono st₃.grow) (RepL.cons (ra.mono st₃.grow) (RepL.cons rb RepL.nil))
  obtain ⟨x, r, he⟩ := hne
  obtain ⟨b, t⟩ := x
  rw [he] at key hp ⊢
  obtain rfl : b = false := by simp at hp; exact hp.1
  exact evalArgs_kw rfl key
omit hp in
theorem ev.callK {x : Str} {p pos : Pos} {es : List Expr} {f : Value} {e1 e2 : Expr} {k1 k2 : Str} {q1 q2 : Pos} {vs : List PV} {v1 v2 r : PV} (hf : ev w base n sc ρ (.Name x p) (.ref f)) (hk : Calls base f) (ha : evs w base n sc ρ es vs) (h1 : ev w base n sc ρ e1 v1) (h2 : ev w base n sc ρ e2 v2) (hc : CONK w base n f vs [k1, k2] [v1, v2] r)
    (hpl : ∀ env, (backTo pos (starEach es env)).any (·.1) = false := by intros; rfl) (hne : ∀ env, ∃ x r, backTo pos (starEach es env) = x :: r := by intros; exact ⟨_, _, rfl⟩) : ev w base n sc ρ (.Call (.Name x p) es [⟨some k1, e1, q1⟩, ⟨some k2, e2, q2⟩] pos) r :=
  ⟨fun A env g s hs G Q E hq => wpAny_Call_Name_kw (hf.raw A env g s hs G _ _ fun fv h₁ tk₁ g₁ st₁ rf => by
    obtain rfl := unR rf
    exact kwCall hk hs (G.step st₁) ha h1 h2 (hpl env) (hne env) fun xs ys h₂ tk₂ g₂ st₂ rx ry => hc A g₂ _ xs ys ((G.step st₁).step st₂).ok rx ry _ _ fun z h₃ tk₃ g₃ st₃ rz => hq z h₃ tk₃ g₃ ((st₁.trans st₂).trans st₃) rz)⟩
theorem evx.callK {x : Str} {p pos : Pos} {es : List Expr} {f : Value} {e1 e2 : Expr} {k1 k2 : Str} {q1 q2 : Pos} {vs : List PV} {v1 v2 : PV} (hf : ev w base n sc ρ (.Name x p) (.ref f)) (hk : Calls base f) (ha : evs w base n sc ρ es vs) (h1 : ev w base n sc ρ e1 v1) (h2 : ev w base n sc ρ e2 v2) (hc : CONKR ph w base n f vs [k1, k2] [v1, v2] cls args)
    (hpl : ∀ env, (backTo pos (starEach es env)).any (·.1) = false := by intros; rfl) (hne : ∀ env, ∃ x r, backTo pos (starEach es env) = x :: r := by intros; exact ⟨_, _, rfl⟩) : evx ph w base n sc ρ (.Call (.Name x p) es [⟨some k1, e1, q1⟩, ⟨some k2, e2, q2⟩] pos) cls args :=
  ⟨fun A env g s hs G Q E hq => wpAny_Call_Name_kw (hf.raw A env g s hs G _ _ fun fv h₁ tk₁ g₁ st₁ rf => by
    obtain rfl := unR rf
    exact kwCall hk hs (G.step st₁) ha h1 h2 (hpl env) (hne env) fun xs ys h₂ tk₂ g₂ st₂ rx ry => hc A g₂ _ xs ys ((G.step st₁).step st₂).ok rx ry _ _ (hq.from (base := base) (st₁.trans st₂)))⟩

omit hp in
/-- a while that skips -/
theorem wl_run {test : Expr} {body : List Stmt} {S : Nat → Bool} {x : Str} {R : Nat → Rho} (ht : ∀ p c, x.cps[p]? = some c → tv w base n sc (R p) test (S c)) (hb : ∀ p, sxs w base n sc (R p) none body (.next (R (p + 1)) none)) :
    ∀ k p, x.length - p ≤ k → skipTo S x p < x.length → wl ph w base n sc test body [] k (R p) none (.ok (.next (R (skipTo S x p)) none))
  | k, p, hk, hlt => by
    have h : p < x.length := Nat.lt_of_le_of_lt skipTo_le hlt
    obtain ⟨c, hc⟩ : ∃ c, x.cps[p]? = some c := ⟨_, Array.getElem?_eq_getElem h⟩
    cases hs : S c with
    | false =>
      rw [skipTo_stop hc hs]
      exact .stop (hs ▸ ht p c hc) (xss.of sxs.nil)
    | true =>
      rw [skipTo_step hc hs] at hlt ⊢
      obtain ⟨k', rfl⟩ : ∃ k', k = k' + 1 := ⟨k - 1, by omega⟩
      exact .next (hs ▸ ht p c hc) (xss.of (hb p)) (wl_run ht hb k' (p + 1) (by omega) hlt)

/-- a def with two words of its own -/
structure KwAt (GL : Str → Option Value) (base : Heap) (name : Str) (i : Nat) (names kn : List Str) : Prop where
  f : ∃ f fd, GL name = some (.ref f) ∧ Fn base f fd (bodyOf (stAt i)) ∧ fd.scope = scopeOf (stAt i) ∧ ∀ (s : Shared) (xs ys : List Value), base.StaysIn s.heap → xs.length = names.length → ys.length = kn.length → BindsTo s fd ⟨xs, kn.zip ys⟩ ((names ++ kn).zip (xs ++ ys))
omit hp in
theorem KwAt.norm {name : Str} {i : Nat} {names kn : List Str} {as ks : List PV} {r : PV} (W : Wd GL base) (D : KwAt GL base name i names kn) (hok : fnOk (scopeOf (stAt i)) (names ++ kn) = true) (h1 : as.length = names.length) (h2 : ks.length = kn.length)
    (h : xss ph w base n (scopeOf (stAt i)) ((names ++ kn).zip (as ++ ks)) none (bodyOf (stAt i)) (.ok (.ret r))) : ∃ f, GL name = some f ∧ Calls base f ∧ CONK w base (n + 1) f as kn ks r := by
  obtain ⟨f, fd, e1, F, e2, hb⟩ := D.f
  rw [← e2] at hok h
  refine ⟨.ref f, e1, F.calls, fun A g s xs ys ok rx ry Q E hq => ?_⟩
  refine enter (a := ⟨xs, kn.zip ys⟩) W F hok ok (by rw [List.length_append, List.length_append, rx.length, ry.length, h1, h2]) (rx.app ry) (hb s xs ys ok.stays (rx.length.trans h1) (ry.length.trans h2)) fun s₁ tk h₁ e G => ?_
  obtain ⟨l, hf, _⟩ := ok.frames
  refine h.raw _ _ _ _ g s₁ rfl (enterA hf) G _ _ fun fl h' tk' g' hout => ?_
  obtain ⟨pv, rfl, st, rv⟩ := hout
  subst e
  exact hq pv h' tk' g' st rv
omit hp in
theorem KwAt.exc {name : Str} {i : Nat} {names kn : List Str} {as ks : List PV} (W : Wd GL base) (D : KwAt GL base name i names kn) (hok : fnOk (scopeOf (stAt i)) (names ++ kn) = true) (h1 : as.length = names.length) (h2 : ks.length = kn.length)
    (h : xss ph w base n (scopeOf (stAt i)) ((names ++ kn).zip (as ++ ks)) none (bodyOf (stAt i)) (.exc ρ' ow' cls args)) : ∃ f, GL name = some f ∧ Calls base f ∧ CONKR ph w base (n + 1) f as kn ks cls args := by
  obtain ⟨f, fd, e1, F, e2, hb⟩ := D.f
  rw [← e2] at hok h
  refine ⟨.ref f, e1, F.calls, fun A g s xs ys ok rx ry Q E hq => ?_⟩
  refine enter (a := ⟨xs, kn.zip ys⟩) W F hok ok (by rw [List.length_append, List.length_append, rx.length, ry.length, h1, h2]) (rx.app ry) (hb s xs ys ok.stays (rx.length.trans h1) (ry.length.trans h2)) fun s₁ tk h₁ e G => ?_
  obtain ⟨l, hf, _⟩ := ok.frames
  have ha : Act (A.deeper (callEnvC fd s.heap.objs.size f)) (callEnvC fd s.heap.objs.size f) := enterA hf
  refine h.raw _ _ _ _ g s₁ rfl ha G _ _ fun x h' tk' g' hx hP => ?_
  unfold leaving
  refine wpAny_bind (hx.note ha _ rfl fun h₂ hx₂ y₂ => hx₂.flight y₂ (.inl rfl) _ fun h₃ hx₃ y₃ => ?_)
  subst e
  exact hq x h₃ tk' g' (some .none) (.inr rfl) ⟨hx₃.gs.keep, hx₃.gs.grow, hx₃.gs.new, hx₃.gs.good.ok.sub⟩ hP y₃.loosen
end
end Mine
end
section
open PySem PySem.W PyProof.Rows PySem.Calls PySem.SeqAt
set_option maxRecDepth 100000
namespace Mine

theorem cut_len {x : Str} {a b : Int} : (cut x a b).length ≤ x.length := by
  unfold cut
  split
  · exact Nat.le_refl _
  · show ((Builtin.Str.strSliceIndices (some a) (some b) 1 x.length).filterMap (x.cps[·]?)).toArray.size ≤ _
    rw [List.size_toArray]
    exact Nat.le_trans (List.length_filterMap_le _ _) (indices_len_le _ _ _)

noncomputable def isIll (c : Nat) : Bool := (c < 32 && c != 9) || c == 127
noncomputable def isWs (c : Nat) : Bool := c == 32 || c == 9 || c == 10
/-- what the top has laid, for the reading -/
structure TopR (GL : Str → Option Value) (base : Heap) (X C : Addr) : Prop where
  T : Tops GL (base.hide X)
  idx : GL "IndexError" = some (.type "IndexError")
  skipc : DefAt GL (base.hide X) "skip_chars" 7 ["src", "pos", "chars"]
  til : KwAt GL (base.hide X) "skip_until" 8 ["src", "pos", "expect"] ["error_on", "error_on_eof"]
  comment : DefAt GL (base.hide X) "skip_comment" 9 ["src", "pos"]
  ws : DefAt GL (base.hide X) "skip_comments_and_array_ws" 10 ["src", "pos"]
  read : DefAt GL (base.hide X) "_law_read" 41 ["document"]
  reduce : DefAt GL (base.hide X) "reduce" 14 ["function", "sequence", "initial"]
  sfx : SfxAt GL base X
  err : GL "TOMLDecodeError" = some (.ref C)
  cls : ErrCls (base.hide X) C
  ill : ∃ a, GL "ILLEGAL_COMMENT_CHARS" = some (.ref a) ∧ FS (base.hide X) a isIll
  wsnl : ∃ a, GL "TOML_WS_AND_NEWLINE" = some (.ref a) ∧ FS (base.hide X) a isWs
theorem KwAt.mono {GL : Str → Option Value} {base base' : Heap} {name : Str} {i : Nat} {names kn : List Str} (D : KwAt GL base name i names kn) (hb : base.StaysIn base') : KwAt GL base' name i names kn :=
  ⟨let ⟨f, fd, h1, F, h2, h3⟩ := D.f; ⟨f, fd, h1, F.mono hb, h2, fun s xs ys st => h3 s xs ys fun b o e => st b o (hb b o e)⟩⟩

section
variable {w : World} {base : Heap} {n : Nat} {sc : Scope} {ρ ρ' : Rho} {ow ow' : Ow} {GL : Str → Option Value} {X C : Addr}
theorem hideSub {base : Heap} {X : Addr} : (base.hide X).StaysIn base := fun b o e => (hide_some e).2
theorem TopR.T1 (R : TopR GL base X C) : Tops GL base := R.T.mono hideSub
theorem TopR.X1 (R : TopR GL base X C) : TopX GL base := ⟨R.T1, R.idx, R.skipc.mono hideSub⟩
theorem TopR.ph (R : TopR GL base X C) : (ph1 X).Ok base := let ⟨_, h1, h2⟩ := R.sfx.tab; ph1_ok h1 h2
theorem TopR.ill1 (R : TopR GL base X C) : ∃ a, GL "ILLEGAL_COMMENT_CHARS" = some (.ref a) ∧ FS base a isIll := let ⟨a, h1, h2⟩ := R.ill; ⟨a, h1, h2.keeps hideSub⟩
theorem TopR.ws1 (R : TopR GL base X C) : ∃ a, GL "TOML_WS_AND_NEWLINE" = some (.ref a) ∧ FS base a isWs := let ⟨a, h1, h2⟩ := R.wsnl; ⟨a, h1, h2.keeps hideSub⟩

theorem c_until (R : TopR GL base X C) {x : Str} {p k a : Nat} {rest : List Nat} (hx : x.length < 1000000) (hf : FS base a isIll) (ho : Builtin.Str.occurrences x "\n" p x.length 1 = k :: rest) (hany : (cut x p k).cps.toList.any isIll = false) :
    ∃ f, GL "skip_until" = some f ∧ Calls base f ∧ CONK w base (n + 1) f [.str x, .int p, .str "\n"] ["error_on", "error_on_eof"] [.ref (.ref a), .bool false] (.int k) := by
  have hz : sizeLine = 16777216 := by decide
  haveI := ph0_ok (base := base)
  refine KwAt.norm (ph := ph0) R.T1.W (R.til.mono hideSub) (by decide) rfl rfl ?_
  refine xss.cons (xs.tryOk (xss.of (sxs.one (sx.assign (v := .int k) (ev.methS F.slot_str_index F.type_str_index (ev.name rfl) (evs.cons (ev.name rfl) (evs.cons (ev.name rfl) evs.nil)) (CON.index3 ho)) rfl)))) ?_
  refine xss.cons (xs.of (sx.no (tv.to (tv.not (tv.val (ev.disj hf (ev.name rfl) (evs.cons (ev.cutS (ev.name rfl) (ev.name rfl) (ev.name rfl) (Nat.le_trans cut_len (by omega))) evs.nil)) PB.bool)) (by rw [hany]; rfl)) sxs.nil)) ?_
  exact xss.of (sxs.ret (sx.ret (ev.name rfl)))

theorem c_until_x (R : TopR GL base X C) {x : Str} {p k a q ch l c : Nat} {rest : List Nat} (hf : FS base a isIll) (ho : Builtin.Str.occurrences x "\n" p x.length 1 = k :: rest) (hany : (cut x p k).cps.toList.any isIll = true)
    (hq : skipTo (fun c => !isIll c) x p = q) (hch : x.cps[q]? = some ch) (hm : ((("Found invalid character " : Str) ++ reprText ⟨#[ch]⟩).length ≤ 100)) (hco : CoordAt x q l c) :
    ∃ f, GL "skip_until" = some f ∧ Calls base f ∧ CONKR (ph1 X) w base (n + 3) f [.str x, .int p, .str "\n"] ["error_on", "error_on_eof"] [.ref (.ref a), .bool false] (.ref C) (some [.str (errText (("Found invalid character " : Str) ++ reprText ⟨#[ch]⟩) l c)]) := by
  have hz : sizeLine = 16777216 := by decide
  have hx := hco.len
  have hqx : q < x.length := hco.inn
  haveI := R.ph
  obtain ⟨fs, g1, g2, g3⟩ := c_sfx (w := w) (n := n) R.sfx R.T R.err R.cls hco hm
  refine KwAt.exc (ph := ph1 X) (ρ' := [("src", .str x), ("pos", .int q), ("error_on", .ref (.ref a))]) (ow' := none) R.T1.W (R.til.mono hideSub) (by decide) rfl rfl ?_
  refine xss.cons (xs.tryOk (xss.of (sxs.one (sx.assign (v := .int k) (ev.methS F.slot_str_index F.type_str_index (ev.name rfl) (evs.cons (ev.name rfl) (evs.cons (ev.name rfl) evs.nil)) (CON.index3 ho)) rfl)))) ?_
  refine xss.exc (xs.ite (b := true) (tv.to (tv.not (tv.val (ev.disj hf (ev.name rfl) (evs.cons (ev.cutS (ev.name rfl) (ev.name rfl) (ev.name rfl) (Nat.le_trans cut_len (by omega))) evs.nil)) PB.bool)) (by rw [hany]; rfl)) (fun _ => ?_) (fun z => nomatch z))
  subst hq
  refine xss.cons (xs.le (ρ' := [("src", .str x), ("pos", .int p), ("error_on", .ref (.ref a))]) (Le.cons rfl (Le.cons rfl (Le.cons rfl Le.nil))) (xs.while x.length (wl_run (S := fun c => !isIll c) (R := fun p => [("src", .str x), ("pos", .int p), ("error_on", .ref (.ref a))]) (fun r c hc => ?_) (fun r => ?_) x.length p (by omega) hqx))) ?_
  · exact tv.cmp (ev.index (ev.name rfl) (ev.name rfl) (IX.str (k := r) (by omega) (by have := (Array.getElem?_eq_some_iff.mp hc).1; have h' : x.cps.size = x.length := rfl; omega) hc)) (ev.name rfl) (P2.ninF hf) PB.bool
  · exact sxs.out (Le.cons rfl (Le.cons rfl (Le.cons rfl Le.nil))) (sxs.one (sx.aug rfl ev.int P2.iadd rfl))
  · refine xss.exc (xs.raiseE R.cls (eve.call (ev.glob R.T1.W g1 (by rfl) (by decide)) g2 (evs.cons (ev.name rfl) (evs.cons (ev.name rfl) (evs.cons (ev.joined (xs := ["Found invalid character ", reprText ⟨#[ch]⟩]) (.cons ev.str (.cons (ev.fmtR (ev.index (ev.name rfl) (ev.name rfl) (IX.str (k := skipTo (fun c => !isIll c) x p) (by omega) (by omega) hch)) ?_) .nil)) ?_) evs.nil))) g3))
    · rw [slen] at hm; omega
    · rw [slen] at hm
      simp only [List.map_cons, List.map_nil, List.sum_cons, List.sum_nil]
      omega
end
end Mine
end
section
open PySem PySem.W PyProof.Rows PySem.Calls PySem.SeqAt
set_option maxRecDepth 100000
namespace Mine

/-- skip_comment goes from p to q -/
inductive CStep (x : Str) : Nat → Nat → Prop
  | past {p} : x.length ≤ p → CStep x p p
  | other {p c} : x.cps[p]? = some c → c ≠ 35 → CStep x p p
  | hash {p k rest} : x.cps[p]? = some 35 → Builtin.Str.occurrences x "\n" (p + 1) x.length 1 = k :: rest → (cut x ((p + 1 : Nat) : Int) k).cps.toList.any isIll = false → CStep x p k
/-- skip_comment raises at p -/
structure CExc (x : Str) (p l c : Nat) : Prop where
  at_ : x.cps[p]? = some 35
  ex : ∃ k rest, Builtin.Str.occurrences x "\n" (p + 1) x.length 1 = k :: rest ∧ (cut x ((p + 1 : Nat) : Int) k).cps.toList.any isIll = true
  ch : x.cps[skipTo (fun c => !isIll c) x (p + 1)]? = some 127
  co : CoordAt x (skipTo (fun c => !isIll c) x (p + 1)) l c
noncomputable def msgBad : Str := ("Found invalid character " : Str) ++ reprText ⟨#[127]⟩
/-- skip_comments_and_array_ws goes from p to q -/
inductive Ws (x : Str) : Nat → Nat → Nat → Prop
  | stop {k p} : p < 1000 → CStep x (skipTo isWs x p) p → Ws x k p p
  | next {k p p' r} : p < 1000 → CStep x (skipTo isWs x p) p' → p' ≠ p → Ws x k p' r → Ws x (k + 1) p r
inductive WsX (x : Str) (l c : Nat) : Nat → Nat → Prop
  | raise {k p} : p < 1000 → CExc x (skipTo isWs x p) l c → WsX x l c k p
  | next {k p p'} : p < 1000 → CStep x (skipTo isWs x p) p' → p' ≠ p → WsX x l c k p' → WsX x l c (k + 1) p

section
variable {w : World} {base : Heap} {n : Nat} {sc : Scope} {ρ ρ' : Rho} {ow ow' : Ow} {GL : Str → Option Value} {X C : Addr}
theorem hash_eq {c : Nat} : ((⟨#[c]⟩ : Str) == ("#" : Str)) = (c == 35) := by
  by_cases h : c = 35
  · subst h; rfl
  · rw [beq_eq_false_iff_ne.mpr h, beq_eq_false_iff_ne]
    intro e
    injection e with e
    have : #[c] = #[35] := e
    simp at this
    exact h this
theorem c_comment (R : TopR GL base X C) {x : Str} {p q : Nat} (hx : x.length < 1000000) (hp : p < 1000000) (h : CStep x p q) : CG GL w base (n + 2) "skip_comment" [.str x, .int p] (.int q) := by
  have hcc : x.cps.size = x.length := rfl
  haveI := ph0_ok (base := base)
  refine CGS.def (ph := ph0) R.T1.W (R.comment.mono hideSub) (by decide) rfl ?_
  cases h with
  | past h =>
    refine xss.cons (ρ' := [("char", .none), ("src", .str x), ("pos", .int p)]) (ow' := none) (xs.tryIdx R.T1.W R.idx (ρ' := [("src", .str x), ("pos", .int p)]) (ow' := none) (xss.one (xs.assignX (evx.past (k := p) (ev.name rfl) (ev.name rfl) (by omega) (by omega) h))) (hss.none rfl)) ?_
    refine xss.cons (xs.of (sx.no (tv.to (tv.cmp (ev.name rfl) ev.str P2.eqns PB.bool) rfl) sxs.nil)) ?_
    exact xss.of (sxs.ret (sx.ret (ev.name rfl)))
  | @other c hc hn =>
    have hlt : p < x.length := (Array.getElem?_eq_some_iff.mp hc).1
    refine xss.cons (xs.tryOk (xss.of (sxs.one (sx.assign (v := .str ⟨#[c]⟩) (ev.index (ev.name rfl) (ev.name rfl) (IX.str (k := p) (by omega) (by omega) hc)) rfl)))) ?_
    refine xss.cons (xs.of (sx.no (tv.to (tv.cmp (ev.name rfl) ev.str P2.eqs PB.bool) (by rw [hash_eq]; exact beq_eq_false_iff_ne.mpr hn)) sxs.nil)) ?_
    exact xss.of (sxs.ret (sx.ret (ev.name rfl)))
  | @hash _ rest hc ho hany =>
    have hlt : p < x.length := (Array.getElem?_eq_some_iff.mp hc).1
    obtain ⟨a, g1, g2⟩ := R.ill1
    obtain ⟨f, f1, f2, f3⟩ := c_until (w := w) (n := n) R hx g2 ho hany
    refine xss.cons (xs.tryOk (xss.of (sxs.one (sx.assign (v := .str ⟨#[35]⟩) (ev.index (ev.name rfl) (ev.name rfl) (IX.str (k := p) (by omega) (by omega) hc)) rfl)))) ?_
    refine xss.of (sxs.ret (sx.yes (tv.to (tv.cmp (ev.name rfl) ev.str P2.eqs PB.bool) rfl) (sxs.ret (sx.ret (ev.callK (ev.glob R.T1.W f1 (by rfl) (by decide)) f2 (evs.cons (ev.name rfl) (evs.cons (ev.to (ev.binop (ev.name rfl) ev.int P2.add) rfl) (evs.cons ev.str evs.nil))) (ev.glob R.T1.W g1 (by rfl) (by decide)) ev.bool f3)))))
theorem c_comment_x (R : TopR GL base X C) {x : Str} {p l c : Nat} (h : CExc x p l c) : CGR GL (ph1 X) w base (n + 4) "skip_comment" [.str x, .int p] (.ref C) (some [.str (errText msgBad l c)]) := by
  have hcc : x.cps.size = x.length := rfl
  have hx := h.co.len
  haveI := R.ph
  have hlt : p < x.length := (Array.getElem?_eq_some_iff.mp h.at_).1
  obtain ⟨a, g1, g2⟩ := R.ill1
  obtain ⟨k, rest, ho, hany⟩ := h.ex
  obtain ⟨f, f1, f2, f3⟩ := c_until_x (w := w) (n := n) R g2 ho hany rfl h.ch (by decide +kernel) h.co
  refine CGR.def (ph := ph1 X) (ρ' := [("char", .str ⟨#[35]⟩), ("src", .str x), ("pos", .int p)]) (ow' := none) R.T1.W (R.comment.mono hideSub) (by decide) rfl ?_
  refine xss.cons (xs.tryOk (xss.of (sxs.one (sx.assign (v := .str ⟨#[35]⟩) (ev.index (ev.name rfl) (ev.name rfl) (IX.str (k := p) (by omega) (by omega) h.at_)) rfl)))) ?_
  exact xss.exc (xs.ite (b := true) (tv.to (tv.cmp (ev.name rfl) ev.str P2.eqs PB.bool) rfl) (fun _ => xss.exc (xs.retX (evx.callK (ev.glob R.T1.W f1 (by rfl) (by decide)) f2 (evs.cons (ev.name rfl) (evs.cons (ev.to (ev.binop (ev.name rfl) ev.int P2.add) rfl) (evs.cons ev.str evs.nil))) (ev.glob R.T1.W g1 (by rfl) (by decide)) ev.bool f3))) (fun z => nomatch z))

noncomputable def rhoW (x : Str) (p : Nat) : Rho := [("src", .str x), ("pos", .int p)]
theorem skipTo_lt {x : Str} {p : Nat} (hx : x.length < 1000) (hp : p < 1000) : skipTo isWs x p < 1000000 := by
  rcases Nat.lt_or_ge p x.length with h | h
  · have := skipTo_max (S := isWs) (x := x) (p := p) (by omega); omega
  · rw [skipTo_end h]; omega
theorem c_ws (R : TopR GL base X C) {x : Str} {p r k : Nat} (hx : x.length < 1000) (h : Ws x k p r) : CG GL w base (n + 3) "skip_comments_and_array_ws" [.str x, .int p] (.int r) := by
  haveI := ph0_ok (base := base)
  refine CGS.def (ph := ph0) R.T1.W (R.ws.mono hideSub) (by decide) rfl ?_
  refine xss.ret (xs.while k ?_)
  show wl _ _ _ _ _ _ _ _ _ (rhoW x p) _ _
  obtain ⟨a, g1, g2⟩ := R.ws1
  induction h with
  | @stop k p hp hc =>
    refine .ret (tv.val ev.bool PB.bool) ?_
    refine xss.cons (xs.of (sx.assign (v := .int p) (ev.name rfl) rfl)) ?_
    refine xss.cons (xs.of (sx.assign (ev.cg R.T1.W (evs.cons (ev.name rfl) (evs.cons (ev.name rfl) (evs.cons (ev.glob R.T1.W g1 (by rfl) (by decide)) evs.nil))) (CG.up (c_skip (n := n) R.X1 (by omega) (by omega) (fun c => P2.inF g2)) (by omega))) rfl)) ?_
    refine xss.cons (xs.of (sx.assign (ev.cg R.T1.W (evs.cons (ev.name rfl) (evs.cons (ev.name rfl) evs.nil)) (c_comment R (by omega) (skipTo_lt hx hp) hc)) rfl)) ?_
    exact xss.of (sxs.ret (sx.yes (tv.to (tv.cmp (ev.name rfl) (ev.name rfl) P2.eqi PB.bool) (by simp)) (sxs.ret (sx.ret (ev.name rfl)))))
  | @next k p p' r hp hc hne _ ih =>
    refine .next (ρ₁ := rhoW x p') (ow₁ := none) (tv.val ev.bool PB.bool) ?_ ih
    refine xss.cons (xs.of (sx.assign (v := .int p) (ev.name rfl) rfl)) ?_
    refine xss.cons (xs.of (sx.assign (ev.cg R.T1.W (evs.cons (ev.name rfl) (evs.cons (ev.name rfl) (evs.cons (ev.glob R.T1.W g1 (by rfl) (by decide)) evs.nil))) (CG.up (c_skip (n := n) R.X1 (by omega) (by omega) (fun c => P2.inF g2)) (by omega))) rfl)) ?_
    refine xss.cons (xs.of (sx.assign (ev.cg R.T1.W (evs.cons (ev.name rfl) (evs.cons (ev.name rfl) evs.nil)) (c_comment R (by omega) (skipTo_lt hx hp) hc)) rfl)) ?_
    exact xss.of (sxs.out (Le.cons rfl (Le.cons rfl Le.nil)) (sxs.one (sx.no (tv.to (tv.cmp (ev.name rfl) (ev.name rfl) P2.eqi PB.bool) (by simpa using fun e => hne (by omega))) sxs.nil)))
theorem c_ws_x (R : TopR GL base X C) {x : Str} {p l c k : Nat} (hx : x.length < 1000) (h : WsX x l c k p) : CGR GL (ph1 X) w base (n + 5) "skip_comments_and_array_ws" [.str x, .int p] (.ref C) (some [.str (errText msgBad l c)]) := by
  haveI := R.ph
  suffices H : ∃ ρ', wl (ph1 X) w base (n + 4) (scopeOf (stAt 10)) _ _ _ k (rhoW x p) none (.exc ρ' none (.ref C) (some [.str (errText msgBad l c)])) by
    obtain ⟨ρ', H⟩ := H
    exact CGR.def (ph := ph1 X) (ρ' := ρ') (ow' := none) R.T1.W (R.ws.mono hideSub) (by decide) rfl (xss.exc (xs.while k H))
  obtain ⟨a, g1, g2⟩ := R.ws1
  induction h with
  | @raise k p hp hc =>
    refine ⟨("pos", .int (skipTo isWs x p)) :: ("pos_before_skip", .int p) :: rhoW x p, .raise (tv.val ev.bool PB.bool) ?_⟩
    refine xss.cons (xs.of (sx.assign (v := .int p) (ev.name rfl) rfl)) ?_
    refine xss.cons (xs.of (sx.assign (ev.cg R.T1.W (evs.cons (ev.name rfl) (evs.cons (ev.name rfl) (evs.cons (ev.glob R.T1.W g1 (by rfl) (by decide)) evs.nil))) (CG.up (c_skip (n := n) R.X1 (by omega) (by omega) (fun c => P2.inF g2)) (by omega))) rfl)) ?_
    exact xss.exc (xs.assignX (evx.cg R.T1.W (evs.cons (ev.name rfl) (evs.cons (ev.name rfl) evs.nil)) (c_comment_x R hc)))
  | @next k p p' hp hc hne _ ih =>
    obtain ⟨ρ', ih⟩ := ih
    refine ⟨ρ', .next (ρ₁ := rhoW x p') (ow₁ := none) (tv.val ev.bool PB.bool) ?_ ih⟩
    refine xss.cons (xs.of (sx.assign (v := .int p) (ev.name rfl) rfl)) ?_
    refine xss.cons (xs.of (sx.assign (ev.cg R.T1.W (evs.cons (ev.name rfl) (evs.cons (ev.name rfl) (evs.cons (ev.glob R.T1.W g1 (by rfl) (by decide)) evs.nil))) (CG.up (c_skip (n := n) R.X1 (by omega) (by omega) (fun c => P2.inF g2)) (by omega))) rfl)) ?_
    refine xss.cons (xs.of (sx.assign (ev.cg R.T1.W (evs.cons (ev.name rfl) (evs.cons (ev.name rfl) evs.nil)) (CG.up (c_comment (n := n) R (by omega) (skipTo_lt hx hp) hc) (by omega))) rfl)) ?_
    exact xss.of (sxs.out (Le.cons rfl (Le.cons rfl Le.nil)) (sxs.one (sx.no (tv.to (tv.cmp (ev.name rfl) (ev.name rfl) P2.eqi PB.bool) (by simpa using fun e => hne (by omega))) sxs.nil)))
end
end Mine
end
section
open PySem PySem.W PyProof.Rows PySem.Calls PySem.SeqAt
set_option maxRecDepth 100000
namespace Mine
open Builtin Builtin.Str Builtin.BaseException Builtin.Exceptions

section
variable {pr : Program} {w : World} {A : Around} {E : Value → Shared → Prop} {base : Heap} {C e t : Addr} {oe : Obj} {vs : Array Value} {m : Str} {tk : Tok}

theorem spec_own {h : Heap} {gg : Array GenState} {d : Drawn} {tt : Nat} {os : OsState} {Q : Option Value → Shared → Prop} (K : ErrCls base C) (st : base.StaysIn h) (he : h.get? e = some oe) (hc : oe.cls = .ref C) (hq : Q (some (.builtin "BaseException.__str__")) ⟨h, gg, d, tt, os⟩) :
    wpAny (model pr w) A (specialOf (.ref e) "__str__") Q E ⟨h, gg, d, tt, os⟩ := by
  obtain ⟨nm, q, N, bs, hdct, sn, sub, ab, col, dd, k0, k1, k2, k3, k5, mN, e1, e2, e3, e4⟩ := K.ex
  unfold specialOf
  refine wpAny_bind ?_
  unfold typeOf
  refine wpAny_bind (wpAny_loadPart_at he ?_)
  refine wpAny_pure ?_
  rw [hc]
  refine wpAny_typeLookup_exc (st _ _ e1) (e2.keeps st) F.excBase_ValueError.mroIs F.excStr_ValueError.str.lookup ?_
  rw [e4]
  exact hq
theorem bs_kind : builtinKind "BaseException.__str__" = some .slot := by decide +kernel
theorem bs_split : splitId "BaseException.__str__" = some ("BaseException", "__str__") := by decide +kernel
theorem bs_check {h : Heap} {gg : Array GenState} {d : Drawn} {tt : Nat} {os : OsState} {Q : Unit → Shared → Prop} (K : ErrCls base C) (st : base.StaysIn h) (he : h.get? e = some oe) (hc : oe.cls = .ref C) (hq : Q () ⟨h, gg, d, tt, os⟩) :
    wpAny (model pr w) A (checkBuiltinCall "BaseException.__str__" ⟨[.ref e], []⟩) Q E ⟨h, gg, d, tt, os⟩ := by
  obtain ⟨nm, q, N, bs, hdct, sn, sub, ab, col, dd, k0, k1, k2, k3, k5, mN, e1, e2, e3, e4⟩ := K.ex
  have hcB : ((Value.ref C :: [.type "ValueError", .type "Exception", .type "BaseException", .type "object"]) : List Value).contains (.type "BaseException") = true := by
    rw [List.contains_cons, F.excBase_ValueError.hasBase, Bool.or_true]
  simp only [checkBuiltinCall, bs_kind, bs_split]
  unfold isInstance
  refine wpAny_bind (wpAny_bind ?_)
  unfold typeOf
  refine wpAny_bind (wpAny_loadPart_at he (wpAny_pure ?_))
  rw [hc]
  refine wpAny_isSubtype_exc (st _ _ e1) ?_
  rw [hcB]
  simp only [Bool.not_true, Bool.false_eq_true, if_false]
  have ha : argsOk "BaseException.__str__" ⟨[.ref e], []⟩ := F.args_bexc_str _
  cases hsig : Manifest.signature? "BaseException.__str__" with
  | none => exact wpAny_pure hq
  | some sig =>
    simp only [argsOk, hsig] at ha
    have h2 : Bind.checkArgs "BaseException.__str__" sig ⟨[.ref e], []⟩ = pure () := ha
    show wpAny _ _ (Bind.checkArgs "BaseException.__str__" sig ⟨[.ref e], []⟩) _ _ _
    rw [h2]; exact wpAny_pure hq
theorem bs_entry {s : Shared} {Q : Fin → Shared → Prop} (he : s.heap.get? e = some oe) (hd : oe.data = .fields vs) (h0 : vs[0]? = some (.ref t)) (ht : s.heap.TupAt t [.str m tk]) (hq : Q (.done (.ret (.str m tk))) s) :
    wpAny (model pr w) A (Builtin.«BaseException.__str__» ⟨[.ref e], []⟩) Q E s := by
  obtain ⟨ot, k, hto, _, htd⟩ := ht
  have key : ∀ {Q : Value × List Value → Shared → Prop}, Q (.ref t, [.str m tk]) s → wpAny (model pr w) A (bexcArgs (.ref e)) Q E s := fun {Q} hq => by
    unfold bexcArgs
    exact wpAny_bind (wpAny_field he hd h0 (wpAny_bind (wpAny_seqItems hto htd (wpAny_pure hq))))
  unfold Builtin.«BaseException.__str__»
  repeat (first | with_reducible refine key ?_ | wp_step)
  exact hq
theorem strOf_own {s : Shared} {Q : Value → Shared → Prop} (K : ErrCls base C) (st : base.StaysIn s.heap) (he : s.heap.get? e = some oe) (hc : oe.cls = .ref C) (hd : oe.data = .fields vs) (h0 : vs[0]? = some (.ref t)) (ht : s.heap.TupAt t [.str m tk]) (hu : A.units < cLine) (hq : Q (.str m tk) s) :
    wpAny (model pr w) A (Builtin.Str.strOf (.ref e)) Q E s := by
  obtain ⟨hp, gg, d, tt, os⟩ := s
  unfold Builtin.Str.strOf
  have hcall : ∀ {Q : Option Value → Shared → Prop}, Q (some (.str m tk)) ⟨hp, gg, d, tt, os⟩ → wpAny (model pr w) A (callSpecial? (.ref e) (Str.ofString "__str__")) Q E ⟨hp, gg, d, tt, os⟩ := fun {Q} hq => by
    simp only [callSpecial?]
    refine wpAny_bind (spec_own K st he hc ?_)
    simp only [F.excStr_ValueError.str.bind]
    refine wpAny_holding (wpAny_bind (wpAny_pure (wpAny_bind ?_)))
    refine wpAny_call (codeAny_call_builtin F.excStr_ValueError.str.plain F.entry_bexc_str (bs_check K st he hc ?_))
    refine bs_entry (s := ⟨hp, gg, d, tt, os⟩) he hd h0 ht ?_
    exact wpAny_pure hq
  repeat (first | with_reducible refine wpAny_cRoomFor hu ?_ | with_reducible refine hcall ?_ | wp_step)
  exact hq
theorem str_own {s : Shared} {Q : Value → Shared → Prop} (K : ErrCls base C) (st : base.StaysIn s.heap) (he : s.heap.get? e = some oe) (hc : oe.cls = .ref C) (hd : oe.data = .fields vs) (h0 : vs[0]? = some (.ref t)) (ht : s.heap.TupAt t [.str m tk]) (hu : A.units + 2 < cLine) (hq : Q (.str m tk) s) :
    wpAny (model pr w) A (call (.type "str") [.ref e]) Q E s :=
  callType_new F.called_str (by decide) (F.typeCall_str_1 _) (F.newCall_str_1 _) (fun obj => F.args_object_init_2 obj _) F.entry_str_new
    (meets_str_new (S := fun A' R s' => A'.units + 1 < cLine ∧ s' = s ∧ R (.ok (.ret (.str m tk))) s')
      fun _ _ A' _ _ hq => by
        obtain ⟨h1, rfl, h3⟩ := hq
        exact strOf_own (A := A'.in1) K st he hc hd h0 ht h1 h3)
    ⟨(show A.units + 1 + 1 < cLine from hu), rfl, typeIs_str _ _ _, hq⟩
end
end Mine
end
section
open PySem PySem.W PyProof.Rows PySem.Calls PySem.SeqAt
set_option maxRecDepth 100000
namespace Mine

/-- e gives v, and the phase changes -/
structure ev2 (ph : Ph) (w : World) (base : Heap) (n : Nat) (sc : Scope) (ρ : Rho) (e : Expr) (v : PV) : Prop where
  raw : ∀ (A : Around) (env : Env) (g : Gh) (s : Shared), env.scope = sc → Good base n A env g ρ s.heap → ∀ (Q E : Value → Shared → Prop),
    (∀ pv h' tk g', Step (ph.g g) g' (ph.h s.heap) h' → ph.P g' → Rep g' v pv → Q pv { s with heap := h', toks := tk }) → wpAny (MD w) A (eval e env) Q E s

theorem Fly.tup1 {h₀ r h : Heap} {g : Gh} {e : Addr} {cls : Value} {m : Str} {tb : Option Value} (sub : Sub g h) (y : Fly h₀ r g h e cls (some [.str m]) tb) : ∃ oe vs t tk, h.get? e = some oe ∧ oe.cls = cls ∧ oe.data = .fields vs ∧ vs[0]? = some (.ref t) ∧ h.TupAt t [.str m tk] := by
  obtain ⟨oe, vs, t, a, b, c, d, f, _⟩ := y.obj
  obtain ⟨ta, o, k, items, rfl, e1, e2, e3, e4⟩ := unT (f _ rfl)
  obtain ⟨v, hv, rv⟩ := un1 e4
  obtain ⟨tk, rfl⟩ := unS rv
  exact ⟨oe, vs, ta, tk, a, b, c, d, o, k, sub _ _ e1, e2, by rw [e3, ← hv]⟩

section
variable {ph : Ph} {w : World} {base : Heap} [hp : ph.Ok base] {n : Nat} {sc : Scope} {ρ ρ' : Rho} {ow ow' : Ow} {GL : Str → Option Value} {cls : Value} {args : Option (List PV)}
theorem xs.ret2 {e : Expr} {pos : Pos} {v : PV} (h : ev2 ph w base n sc ρ e v) : xs ph w base n sc ρ ow (.Return (some e) pos) (.ret2 v) :=
  ⟨fun A env h₀ g₀ g s hs ha G Q E hq => wpAny_Return_some (h.raw A env g s hs G.good _ _ fun pv h' tk g' st hP rv => by
    have G' := (hp.gs G).step st
    exact hq _ h' tk g' ⟨G'.keep, G'.grow, G'.new, G'.good.ok.sub⟩ hP rv)⟩
theorem xs.freeze {st : Stmt} {out : OutX} {x : Str} {l : List PV} (h : xs ph w base n sc ((x, .list l) :: ρ) none st out) : xs ph w base n sc ρ (some (x, l)) st out :=
  ⟨fun A env h₀ g₀ g s hs ha G Q E hq => by
    obtain ⟨g', hgr, hkf, G'⟩ := G.freeze
    exact h.raw A env h₀ g₀ g' s hs ha G' Q E (hq.from hgr hkf)⟩
/-- (a, str(E)) -/
theorem ev2.pairStr {C : Addr} {a e : Expr} {k : Nat} {pos p cpos : Pos} {v : PV} {m : Str} (W : Wd GL base) (hS : GL "str" = some (.type "str")) (K : ErrCls (ph.b base) C) (ha : ev w base n sc ρ a v) (he : eve ph w base n sc ρ e (.ref C) (some [.str m]))
    (hx : sc.names.lookup ("str" : Str) = some .globalImplicit) (p1 : plainE a = true := by rfl) (p2 : plainE e = true := by rfl)
    : ev2 ph w base n sc ρ (.Tuple [a, .Call (.Name "str" p) [e] [] cpos] k pos) (.tup [v, .str m]) :=
  ⟨fun A env g s hs G Q E hq => wpAny_Tuple_spliced (spliced_more (ha.raw A env g s hs G _ _ fun x h₁ tk₁ g₁ st₁ rx => spliced_more (by
    have G₁ := G.step st₁
    show wpAny _ _ (do callWith cpos (← eval (.Name "str" p) env) [] (backTo cpos (starEach [e] env)) (backToKw cpos (keywordEach [] env))) _ _ _
    refine wpAny_bind ((ev.glob W hS hx (by decide)).raw _ env g₁ { s with heap := h₁, toks := tk₁ } hs G₁ _ _ fun fv h₂ tk₂ g₂ st₂ rf => ?_)
    obtain rfl := unR rf
    have G₂ := G₁.step st₂
    refine callWith_of (P := fun _ => True) (by rw [star_cons p2]; rfl) (fun h _ => ⟨.machine, .inr (.inl rfl), Looks.of_pure rfl⟩) ?_
    have key : wpAny (MD w) A (spliced (backTo cpos (starEach [e] env))) (fun vs s₃ => True ∧ wpAny (MD w) A (call (.type "str") ([] ++ vs)) (fun v s₂ => wpAny (MD w) A (spliced (backTo pos (starEach [] env))) (fun vs s₂ => ((x :: v :: vs).length ≤ sizeLine ∧ Q (.ref s₂.heap.objs.size) { s₂ with heap := s₂.heap.push { cls := .type "tuple", data := .seq (x :: v :: vs).toArray } })) E s₂) E s₃) E { s with heap := h₂, toks := tk₂ } := by
      refine spliced_more (he.raw A env g₂ { s with heap := h₂, toks := tk₂ } hs G₂ _ _ fun ex h₃ tk₃ g₃ st₃ hP y fr => spliced_none ⟨trivial, ?_⟩) (star_cons p2)
      have st := (hp.step (st₁.trans st₂)).trans st₃
      have ok₃ := (hp.ok G₂.ok).step st₃
      obtain ⟨oe, vs, t, tk, q1, q2, q3, q4, q5⟩ := y.tup1 ok₃.sub
      refine str_own (s := { s with heap := h₃, toks := tk₃ }) K ok₃.stays q1 q2 q3 q4 q5 (by have := G.ok.units; omega) ?_
      refine spliced_none ⟨by show 2 ≤ sizeLine; decide, ?_⟩
      have al := Step.alloc ok₃.sub { cls := .type "tuple", data := .seq [x, .str m tk].toArray } rfl
      refine hq _ _ tk₃ _ (st.trans al) (hp.mono al.grow hP) ?_
      simp only [Rep]
      refine ⟨_, _, 0, _, rfl, if_pos rfl, rfl, rfl, ?_⟩
      have rx' : Rep g₃ v x := (hp.rep G₂.ok (rx.mono st₂.grow)).mono st₃.grow
      exact (RepL.cons (rx'.mono al.grow) (RepL.cons repS RepL.nil))
    rw [star_cons p2] at key ⊢
    exact evalArgs_plain key) rfl) (star_cons p1))⟩
end
end Mine
end
section
open PySem PySem.W PyProof.Rows PySem.Calls PySem.SeqAt
set_option maxRecDepth 100000
namespace Mine

section
variable {ph : Ph} {w : World} {base : Heap} [hp : ph.Ok base] {n : Nat} {sc : Scope} {ρ ρ' : Rho} {ow ow' : Ow} {GL : Str → Option Value} {cls : Value} {args : Option (List PV)}
/-- try .. except TOMLDecodeError as fault: return (clauses, str(fault)) -/
theorem xs.tryErr {C : Addr} {x : Str} {body : List Stmt} {p1 p2 p3 p4 p5 p6 p7 p8 pos : Pos} {k : Nat} {l : List PV} {m : Str} (W : Wd GL (ph.b base)) (hS : GL "str" = some (.type "str")) (hE : GL x = some (.ref C)) (K : ErrCls (ph.b base) C)
    (h : xss ph w base n sc ρ ow body (.exc ρ' (some ("clauses", l)) (.ref C) (some [.str m])))
    (hx : sc.names.lookup x = some .globalImplicit := by rfl) (hx' : (x == ("__debug__" : Str)) = false := by decide) (hs' : sc.names.lookup ("str" : Str) = some .globalImplicit := by rfl)
    (hf : sc.names.lookup ("fault" : Str) = some .local := by rfl) (hk : sc.kind = .function := by rfl) :
    xs ph w base n sc ρ ow (.Try body [.ExceptHandler (some (.Name x p1)) (some "fault") [.Return (some (.Tuple [.Name "clauses" p2, .Call (.Name "str" p3) [.Name "fault" p4] [] p5] k p6)) p7] p8] [] [] pos) (.ret2 (.tup [.list l, .str m])) :=
  ⟨fun A env h₀ g₀ g s hs ha G Q E hq => wpAny_Try_except (h.raw A env h₀ g₀ g s hs ha G _ _ fun e h₁ tk g₁ x₁ hP => by
    refine x₁.note ha A rfl fun h₂ x₂ y₂ => ?_
    refine x₂.flight (s := { s with heap := h₂, toks := tk }) y₂ (.inl rfl) A fun h₃ x₃ y₃ => ?_
    subst hs
    obtain ⟨nm, q, N, bs, hdct, sn, sub, ab, col, dd, k0, k1, k2, k3, k5, mN, c1, c2, c3, c4⟩ := K.ex
    have G₃ := x₃.gs
    obtain ⟨oe, vs, t, tk1, q1, q2, q3, q4, q5⟩ := y₃.tup1 G₃.good.ok.sub
    refine wpAny_handleBy_cons (codeAny_handlers_test ?_) (by intro q; cases q)
    refine Name_function_global G.good.envok.kind hx (W.load _ _ _ _ _ env x _ hE G₃.good.ok.stays G.good.envok.globals G.good.envok.builtins ?_) hx'
    refine wpAny_excMatches_sub_self (G₃.good.ok.stays _ _ c1) q1 q2 F.excBase_ValueError.hasBase ?_
    refine codeAny_handlers_suite_as ?_
    refine x₃.flight (s := { s with heap := h₃, toks := tk }) y₃ (.inl rfl) _ fun h₄ x₄ y₄ => ?_
    have G₄ := x₄.gs
    refine G₄.bind (s := { s with heap := h₄, toks := tk }) (x := "fault") (v := .ref (.ref e)) (by simp only [ownName, hf]; rfl) repR fun h₅ tk₅ G₅ kf₅ => ?_
    obtain ⟨oe, vs, t, tk1, q1, q2, q3, q4, q5⟩ := y₄.tup1 G₄.good.ok.sub
    obtain ⟨g₅, gr₅, kf₅', G₅'⟩ := G₅.freeze
    have q1' := (kf₅ _ _ _ q1 q3).1
    obtain ⟨oe2, vs2, t2, tk2, z1, z2, z3, z4, z5⟩ := (show ∃ oe vs t tk, h₅.get? e = some oe ∧ oe.cls = .ref C ∧ oe.data = .fields vs ∧ vs[0]? = some (.ref t) ∧ h₅.TupAt t [.str m tk] from by
      obtain ⟨oe', vs', t', a, b, c, d, f, _⟩ := y₄.obj
      rw [q1] at a; cases a
      rw [q3] at c; cases c
      rw [q4] at d; cases d
      obtain ⟨ta, o, kk, items, e0, e1, e2, e3, e4⟩ := unT (f _ rfl)
      cases e0
      obtain ⟨v, hv, rv⟩ := un1 e4
      obtain ⟨tk', rfl⟩ := unS rv
      exact ⟨oe, vs, t, tk', q1', q2, q3, q4, o, kk, G₅.good.ok.sub _ _ e1, e2, by rw [e3, ← hv]⟩)
    obtain ⟨cl, cl1, cl2⟩ := G₅'.good.names "clauses" (.list l) rfl
    obtain ⟨fv, fv1, fv2⟩ := G₅'.good.names "fault" (.ref (.ref e)) rfl
    obtain rfl := unR fv2
    refine wpAny_execs_cons (wpAny_Return_some (wpAny_Tuple_spliced (spliced_more (wpAny_Name (cl1.load G.good.envok.kind ?_) (by decide)) rfl)))
    refine spliced_more ?_ rfl
    show wpAny _ _ (do callWith p5 (← eval (.Name "str" p3) env) [] (backTo p5 (starEach [.Name "fault" p4] env)) (backToKw p5 (keywordEach [] env))) _ _ _
    refine wpAny_bind (Name_function_global G.good.envok.kind hs' (W.load _ _ _ _ _ env "str" _ hS G₅.good.ok.stays G.good.envok.globals G.good.envok.builtins ?_) (by decide))
    refine callWith_of (P := fun _ => True) rfl (fun h _ => ⟨.machine, .inr (.inl rfl), Looks.of_pure rfl⟩) (evalArgs_plain (rest := []) ?_)
    refine spliced_more (env := env) (pos := p5) (e := .Name "fault" p4) (rest := []) (wpAny_Name (fv1.load G.good.envok.kind (spliced_none ⟨trivial, ?_⟩)) (by decide)) rfl
    refine str_own (s := { s with heap := h₅, toks := tk₅ }) K G₅.good.ok.stays z1 z2 z3 z4 z5 (by have := G.good.ok.units; show A.units + 2 < cLine; omega) ?_
    refine spliced_none ⟨by show 2 ≤ sizeLine; decide, ?_⟩
    have al := Step.alloc G₅'.good.ok.sub { cls := .type "tuple", data := .seq [cl, .str m tk2].toArray } rfl
    have G₆ := G₅'.step al
    obtain ⟨gl, h0l, mm, hm⟩ := G₆.loc
    refine wpAny_nameGoes hf hm (by rw [show env.scope.kind = .function from hk]; rfl) fun h₇ m₇ hn₇ sb₇ => ?_
    have kk : Soft (ph.h h₀) h₇ := G₆.keep.then fun b o ⟨o', e'⟩ z => sb₇.extBut b o (fun y => by rw [y, h0l] at e'; cases e') z
    refine hq _ h₇ _ _ ⟨kk, G₆.grow, G₆.new, fun b o z => sb₇.extBut b o (fun y => by rw [y, gl] at z; cases z) (G₆.good.ok.sub b o z)⟩ (hp.mono (fun b o z => al.grow b o (gr₅ b o z)) hP) ?_
    simp only [Rep]
    refine ⟨_, _, 0, _, rfl, if_pos rfl, rfl, rfl, ?_⟩
    exact RepL.cons (cl2.mono al.grow) (RepL.cons repS RepL.nil))⟩
end
end Mine
end
section
open PySem PySem.W PyProof.Rows PySem.Calls PySem.SeqAt
set_option maxRecDepth 100000
set_option maxHeartbeats 1000000
namespace Mine

noncomputable def isWho (c : Nat) : Bool := inS ⟨#[c]⟩ "ugoa"
noncomputable def isWhat (c : Nat) : Bool := inS ⟨#[c]⟩ "rwxstugo"
noncomputable def blanks : List Str := ["", " ", "\t", "\n", "#"]
/-- a clause as it is read -/
noncomputable def takenPV (x : Str) (p mark stop : Nat) : PV := .list [.str (cut x p mark), .str (cut x mark ((mark + 1 : Nat) : Int)), .str (cut x ((mark + 1 : Nat) : Int) stop)]
/-- reading goes on at p with l taken, and ends so; the flag: with a fault -/
inductive Rd (x : Str) : Nat → Nat → List PV → List PV → Str → Bool → Prop
  | done {k p l} : p < 1000 → x.length ≤ p → Rd x k p l l "" false
  | blank {k p l mark stop ln c} : p < x.length → mark = skipTo isWho x p → stop = skipTo isWhat x (mark + 1) → blanks.any (· == cut x stop ((stop + 1 : Nat) : Int)) = false → CoordAt x stop ln c → l.length < 100 → Rd x k p l l (errText "Expected a blank" ln c) true
  | next {k p l mark stop kw p' l' t b} : p < x.length → mark = skipTo isWho x p → stop = skipTo isWhat x (mark + 1) → blanks.any (· == cut x stop ((stop + 1 : Nat) : Int)) = true → Ws x kw stop p' → l.length < 100 → Rd x k p' (l ++ [takenPV x p mark stop]) l' t b → Rd x (k + 1) p l l' t b
  | bad {k p l mark stop kw ln c} : p < x.length → mark = skipTo isWho x p → stop = skipTo isWhat x (mark + 1) → blanks.any (· == cut x stop ((stop + 1 : Nat) : Int)) = true → WsX x ln c kw stop → l.length < 100 → Rd x k p l (l ++ [takenPV x p mark stop]) (errText msgBad ln c) true

noncomputable def rhoR (x : Str) (p : Nat) : Rho := [("place", .int p), ("document", .str x)]
noncomputable def rhoR2 (x : Str) (p mark stop : Nat) : Rho := [("stop", .int stop), ("mark", .int mark), ("place", .int p), ("document", .str x)]
section
variable {ph : Ph} {w : World} {base : Heap} {n : Nat} {sc : Scope} {ρ ρ' : Rho} {ow ow' : Ow} {GL : Str → Option Value} {X C : Addr}
theorem skipTo_small {S : Nat → Bool} {x : Str} {p : Nat} (hx : x.length < 1000) (hp : p < 2000) : skipTo S x p < 2000 := by
  rcases Nat.lt_or_ge p x.length with h | h
  · have := skipTo_max (S := S) (x := x) (p := p) (by omega); omega
  · rw [skipTo_end h]; omega

theorem blank_test {x : Str} {stop : Nat} {p1 p2 p3 p4 p5 p6 p7 p8 p9 p10 p11 p12 p13 pos : Pos} {k1 k2 k3 k4 k5 k6 : Nat} {b : Bool} {p mark : Nat} (hx : x.length < 1000) (hb : blanks.any (· == cut x stop ((stop + 1 : Nat) : Int)) = b) :
    tv w base n sc (rhoR2 x p mark stop) (.Compare (.Subscript (.Name "document" p1) (.Slice (some (.Name "stop" p2)) (some (.BinOp (.Name "stop" p3) .Add (.Constant (.int 1) k6 p4) p5)) none p6) p7) [.NotIn] [.List [.Constant (.str "") k1 p8, .Constant (.str " ") k2 p9, .Constant (.str "\t") k3 p10, .Constant (.str "\n") k4 p11, .Constant (.str "#") k5 p12] p13] pos) (!b) := by
  have hz : sizeLine = 16777216 := by decide
  subst hb
  exact tv.to (tv.cmp (ev.cutS (ev.name rfl) (ev.name rfl) (ev.binop (ev.name rfl) ev.int P2.add) (Nat.le_trans cut_len (by omega))) (ev.to (v' := .list (blanks.map .str)) (ev.list (evs.cons ev.str (evs.cons ev.str (evs.cons ev.str (evs.cons ev.str (evs.cons ev.str evs.nil)))))) rfl) P2.ninLS PB.bool) rfl

noncomputable def tryBody : Stmt → List Stmt
  | .Try body .. => body
  | _ => []
noncomputable def wTest : Stmt → Expr
  | .While test .. => test
  | _ => .Constant .none 0 ⟨0, 0, 0, 0⟩
noncomputable def wBody : Stmt → List Stmt
  | .While _ body .. => body
  | _ => []
/-- the loop of _law_read -/
noncomputable def readLoop : Stmt := headSt (tailSt (tryBody (headSt (tailSt (bodyOf (stAt 41))))))

/-- how the loop of _law_read ends -/
inductive Oc (x : Str) (C : Addr) (l : List PV) : Str → Bool → OutX → Prop
  | fine {pe} : Oc x C l "" false (.ok (.next (rhoR x pe) (some ("clauses", l))))
  | told {t} : Oc x C l t true (.ret2 (.tup [.list l, .str t]))
  | fault {t ρ} : Oc x C l t true (.exc ρ (some ("clauses", l)) (.ref C) (some [.str t]))

theorem skip_head (R : TopR GL base X C) {x : Str} {p mark stop : Nat} {l : List PV} {o : OutX} (hx : x.length < 1000) (hp : p < x.length) (e1 : mark = skipTo isWho x p) (e2 : stop = skipTo isWhat x (mark + 1))
    (h3 : xss ph w base (n + 5) (scopeOf (stAt 41)) (rhoR2 x p mark stop) (some ("clauses", l)) (tailSt (tailSt (wBody readLoop))) o) [ph.Ok base] : xss ph w base (n + 5) (scopeOf (stAt 41)) (rhoR x p) (some ("clauses", l)) (wBody readLoop) o := by
  have hm : mark < 2000 := by rw [e1]; exact skipTo_small hx (by omega)
  have hm' : mark ≤ x.length := by rw [e1]; exact skipTo_max (by omega)
  refine xss.cons (xs.of (sx.assign (v := .int mark) (ev.to (ev.cg R.T1.W (evs.cons (ev.name rfl) (evs.cons (ev.name rfl) (evs.cons ev.str evs.nil))) (c_skip (n := n + 4) (S := isWho) R.X1 (by omega) (by omega) (fun c => P2.ins))) (by rw [e1])) rfl)) ?_
  refine xss.cons (xs.of (sx.assign (v := .int stop) (ev.to (ev.cg R.T1.W (evs.cons (ev.name rfl) (evs.cons (ev.to (v' := .int ((mark + 1 : Nat) : Int)) (ev.binop (ev.name rfl) ev.int P2.add) rfl) (evs.cons ev.str evs.nil))) (c_skip (n := n + 4) (S := isWhat) R.X1 (by omega) (by omega) (fun c => P2.ins))) (by rw [e2])) rfl)) ?_
  exact h3
theorem rd_wl (R : TopR GL base X C) {x : Str} (hx : x.length < 1000) {k p : Nat} {l l' : List PV} {t : Str} {b : Bool} (h : Rd x k p l l' t b) :
    ∃ o, wl (ph1 X) w base (n + 5) (scopeOf (stAt 41)) (wTest readLoop) (wBody readLoop) [] k (rhoR x p) (some ("clauses", l)) o ∧ Oc x C l' t b o := by
  haveI := R.ph
  have hz : sizeLine = 16777216 := by decide
  have hlen : ∀ {p : Nat} {l : List PV}, tv w base (n + 5) (scopeOf (stAt 41)) (rhoR x p) (wTest readLoop) (decide ((p : Int) < (x.length : Nat))) := fun {p l} =>
    tv.cmp (ev.name rfl) (ev.cg R.T1.W (evs.cons (ev.name rfl) evs.nil) (CG.lenS R.T1 (by omega))) P2.lti PB.bool
  have yes : ∀ {p : Nat}, p < x.length → tv w base (n + 5) (scopeOf (stAt 41)) (rhoR x p) (wTest readLoop) true := fun {p} h => tv.to (hlen (l := [])) (by simpa using h)
  have happ : ∀ {p mark stop : Nat} {l : List PV}, l.length < 100 → sx w base (n + 5) (scopeOf (stAt 41)) (rhoR2 x p mark stop) (some ("clauses", l)) (headSt (tailSt (tailSt (tailSt (wBody readLoop))))) (.next (rhoR2 x p mark stop) (some ("clauses", l ++ [takenPV x p mark stop]))) := fun {p mark stop l} hl =>
    sx.append (ev.list (evs.cons (ev.cutS (ev.name rfl) (ev.name rfl) (ev.name rfl) (Nat.le_trans cut_len (by omega))) (evs.cons (ev.cutS (ev.name rfl) (ev.name rfl) (ev.to (v' := .int ((mark + 1 : Nat) : Int)) (ev.binop (ev.name rfl) ev.int P2.add) rfl) (Nat.le_trans cut_len (by omega))) (evs.cons (ev.cutS (ev.name rfl) (ev.to (v' := .int ((mark + 1 : Nat) : Int)) (ev.binop (ev.name rfl) ev.int P2.add) rfl) (ev.name rfl) (Nat.le_trans cut_len (by omega))) evs.nil)))) (by omega)
  induction h with
  | @done k p l hp h =>
    exact ⟨_, .stop (tv.to (hlen (l := [])) (by simpa using h)) (xss.of sxs.nil), .fine⟩
  | @blank k p l mark stop ln c hp e1 e2 hb hco hl =>
    obtain ⟨fs, g1, g2, g3⟩ := c_sfx (w := w) (n := n + 3) R.sfx R.T R.err R.cls hco (msg := "Expected a blank") (by decide +kernel)
    refine ⟨_, .ret2 (yes hp) (skip_head R hx hp e1 e2 (xss.ret2 (xs.ite (b := true) (tv.to (blank_test hx hb) rfl) (fun _ => xss.ret2 (xs.freeze (xs.ret2 (ev2.pairStr R.T1.W R.T1.str R.cls (ev.name rfl) (eve.call (ev.glob R.T1.W g1 (by rfl) (by decide)) g2 (evs.cons (ev.name rfl) (evs.cons (ev.name rfl) (evs.cons ev.str evs.nil))) g3) (by rfl))))) (fun z => nomatch z)))), .told⟩
  | @next k p l mark stop kw p' l' t b hp e1 e2 hb hw hl _ ih =>
    obtain ⟨o, i1, i2⟩ := ih
    refine ⟨o, .next (ρ₁ := rhoR x p') (ow₁ := some ("clauses", l ++ [takenPV x p mark stop])) (yes hp) (skip_head R hx hp e1 e2 (xss.cons (xs.of (sx.no (tv.to (blank_test hx hb) rfl) sxs.nil)) (xss.cons (xs.of (happ hl)) (xss.of (sxs.out (Le.cons rfl (Le.cons rfl Le.nil)) (sxs.one (sx.assign (ev.cg R.T1.W (evs.cons (ev.name rfl) (evs.cons (ev.name rfl) evs.nil)) (c_ws (n := n + 2) R hx hw)) rfl))))))) i1, i2⟩
  | @bad k p l mark stop kw ln c hp e1 e2 hb hw hl =>
    refine ⟨_, .raise (yes hp) (skip_head R hx hp e1 e2 (xss.cons (xs.of (sx.no (tv.to (blank_test hx hb) rfl) sxs.nil)) (xss.cons (xs.of (happ hl)) (xss.exc (xs.assignX (evx.cg R.T1.W (evs.cons (ev.name rfl) (evs.cons (ev.name rfl) evs.nil)) (c_ws_x (n := n) R hx hw))))))), .fault⟩

theorem c_read_ok (R : TopR GL base X C) {x : Str} (hx : x.length < 1000) {k0 k p : Nat} {l : List PV} {t : Str} (h0 : Ws x k0 0 p) (h : Rd x k p [] l t false) : CG GL w base (n + 6) "_law_read" [.str x] (.tup [.list l, .str t]) := by
  haveI := R.ph
  obtain ⟨o, h1, h2⟩ := rd_wl (w := w) (n := n) R hx h
  cases h2 with
  | @fine pe =>
    refine CGS.def (ph := ph1 X) R.T1.W (R.read.mono hideSub) (by decide) rfl ?_
    refine xss.cons (ρ' := [("document", .str x)]) (ow' := some ("clauses", [])) (xs.of (sx.out (Le.cons rfl Le.nil) (sx.newOwn rfl))) ?_
    refine xss.cons (ρ' := rhoR x pe) (ow' := some ("clauses", l)) (xs.tryOk (xss.cons (ρ' := rhoR x p) (ow' := some ("clauses", [])) (xs.of (sx.assign (ev.cg R.T1.W (evs.cons (ev.name rfl) (evs.cons ev.int evs.nil)) (c_ws (n := n + 2) R hx h0)) rfl)) (xss.one (xs.while k h1)))) ?_
    exact xss.of (sxs.ret (sx.freeze (sx.ret (ev.tup (evs.cons (ev.name rfl) (evs.cons ev.str evs.nil))))))
theorem CON2.defs {f : Addr} {st : Stmt} {names : List Str} {args : List PV} {r : PV} (W : Wd GL base) (D : IsDef base f st names) (hok : fnOk (scopeOf st) names = true) (hlen : args.length = names.length)
    (h : xss ph w base n (scopeOf st) (names.zip args) none (bodyOf st) (.ret2 r)) : CON2 ph w base (n + 1) (.ref f) args r := by
  obtain ⟨fd, F, hs, hb⟩ := D
  rw [← hs] at hok h
  exact CON2.fn W F hok hlen hb h
theorem c_read_x (R : TopR GL base X C) {x : Str} (hx : x.length < 1000) {k0 k p : Nat} {l : List PV} {t : Str} (h0 : Ws x k0 0 p) (h : Rd x k p [] l t true) : ∃ f, GL "_law_read" = some f ∧ Calls base f ∧ CON2 (ph1 X) w base (n + 6) f [.str x] (.tup [.list l, .str t]) := by
  haveI := R.ph
  obtain ⟨o, h1, h2⟩ := rd_wl (w := w) (n := n) R hx h
  obtain ⟨f, g1, g2⟩ := R.read.mono hideSub
  refine ⟨.ref f, g1, g2.calls, CON2.defs R.T1.W g2 (by decide) rfl ?_⟩
  refine xss.cons (ρ' := [("document", .str x)]) (ow' := some ("clauses", [])) (xs.of (sx.out (Le.cons rfl Le.nil) (sx.newOwn rfl))) ?_
  cases h2 with
  | told =>
    exact xss.ret2 (xs.tryOk (xss.cons (ρ' := rhoR x p) (ow' := some ("clauses", [])) (xs.of (sx.assign (ev.cg R.T1.W (evs.cons (ev.name rfl) (evs.cons ev.int evs.nil)) (c_ws (n := n + 2) R hx h0)) rfl)) (xss.one (xs.while k h1))))
  | @fault _ ρe =>
    refine xss.ret2 (xs.tryErr (sc := scopeOf (stAt 41)) (ρ' := ρe) R.T.W R.T.str R.err R.cls ?_)
    exact (xss.cons (ρ' := rhoR x p) (ow' := some ("clauses", [])) (xs.of (sx.assign (ev.cg R.T1.W (evs.cons (ev.name rfl) (evs.cons ev.int evs.nil)) (c_ws (n := n + 2) R hx h0)) rfl)) (xss.one (xs.while k h1)))
end
end Mine
end
section
open PySem PySem.W PyProof.Rows PySem.Calls PySem.SeqAt
set_option maxRecDepth 100000
set_option maxHeartbeats 1000000
namespace Mine

theorem plain_iter1 : plainId "iter" = true := by decide +kernel
theorem kind_iter1 : builtinKind "iter" = none := by decide +kernel
theorem entry_iter1 : entryFor table "iter" = some Builtin.«iter» := entryFor_of_fast (by kernel_rfl)
theorem args_iter1 (a : Value) : argsOk "iter" ⟨[a], []⟩ := by unfold argsOk; kernel_rfl
theorem call_iter_list {w : World} {A : Around} {E : Value → Shared → Prop} {s : Shared} {l : Addr} {items : Array Value} {Q : Value → Shared → Prop} (hl : s.heap.IsList l items)
    (hQ : Q (.ref s.heap.objs.size) { s with heap := s.heap.push { cls := .type "list_iterator", data := .fields #[.ref l, .int 0 0] } }) : wpAny (MD w) A (call (.builtin "iter") [.ref l]) Q E s := by
  refine call_function_entry kind_iter1 plain_iter1 entry_iter1 (args_iter1 _) ?_
  show wpAny _ _ (pyIter (.ref l) >>= fun r => ret r) _ _ _
  exact wpAny_bind (wpAny_pyIter_list hl (wpAny_pure ⟨_, rfl, hQ⟩))

section
variable {w : World} {base : Heap} {n : Nat} {sc : Scope} {ρ ρ' : Rho} {ow ow' : Ow} {GL : Str → Option Value}
theorem P2.isIR {a : Int} {v : Value} (hv : ∃ b, v = .ref b) : P2 w base n (compareOp .Is) (.int a) (.ref v) (.bool false) := fun A g s x y ok rx ry Q E hq => by
  obtain ⟨t, rfl⟩ := unI rx
  obtain rfl := unR ry
  obtain ⟨b, rfl⟩ := hv
  exact wpAny_is_other rfl (by intro z; cases z) (hq _ s.heap s.toks g (Step.refl ok.sub) repB)

/-- the for of reduce -/
noncomputable def redFor : Stmt := headSt (tailSt (tailSt (bodyOf (stAt 14))))
noncomputable def forTarget : Stmt → Expr
  | .For t .. => t
  | _ => .Constant .none 0 ⟨0, 0, 0, 0⟩
noncomputable def forBody : Stmt → List Stmt
  | .For _ _ b .. => b
  | _ => []
noncomputable def rhoRed (v : Int) (f : Value) (I : Addr) : Rho := [("value", .int v), ("function", .ref f), ("it", .ref (.ref I))]
theorem c_reduce (T : Tops GL base) (D : DefAt GL base "reduce" 14 ["function", "sequence", "initial"]) (hI : GL "iter" = some (.builtin "iter")) (hM : ∃ b, GL "_initial_missing" = some (.ref b)) {f : Value} (hf : Calls base f) {F : Int → PV → Int} {l : List PV} {a₀ : Int}
    (hF : ∀ m q, q ∈ l → CON w base n f [.int m, q] (.int (F m q))) : CG GL w base (n + 1) "reduce" [.ref f, .list l, .int a₀] (.int (l.foldl F a₀)) := by
  obtain ⟨r, e1, fd, FF, e2, hb⟩ := D
  obtain ⟨bm, hbm⟩ := hM
  refine ⟨.ref r, e1, FF.calls, fun A g s xs ok rx Q E hq => ?_⟩
  have hl : xs.length = (["function", "sequence", "initial"] : List Str).length := rx.length
  refine enter (a := ⟨xs, []⟩) T.W FF (by rw [e2]; decide) ok hl rx (hb s xs ok.stays hl) fun s₁ tk₁ h₁ es G => ?_
  have hsc : (callEnvC fd s.heap.objs.size r).scope = scopeOf (stAt 14) := e2
  generalize callEnvC fd s.heap.objs.size r = env at G hsc ⊢
  generalize hA' : A.deeper env = A' at G ⊢
  have hh : A'.handled = none := G.good.ok.handled
  show wpAny _ _ (execs (headSt (bodyOf (stAt 14)) :: headSt (tailSt (bodyOf (stAt 14))) :: redFor :: tailSt (tailSt (tailSt (bodyOf (stAt 14))))) env) _ _ _
  refine wpAny_execs_cons (wpAny_Assign_Name ?_ rfl)
  show wpAny _ _ (do callWith _ (← eval (.Name "iter" _) env) [] (backTo _ (starEach [.Name "sequence" _] env)) (backToKw _ (keywordEach [] env))) _ _ _
  refine wpAny_bind ((ev.glob T.W hI (by rfl) (by decide)).raw _ env g s₁ hsc G.good _ _ fun fv h₂ tk₂ g₂ st₂ rf => ?_)
  obtain rfl := unR rf
  have G₂ := G.step st₂
  refine callWith_vals .builtin hsc G₂.good (vs := [.list l]) (evs.cons (ev.name rfl) evs.nil).raw rfl ⟨_, _, rfl⟩ fun ys h₃ tk₃ g₃ st₃ ry => ?_
  have G₃ := G₂.step st₃
  obtain ⟨v, rfl, rv⟩ := un1 ry
  obtain ⟨a, ol, k, items, rfl, l1, l2, l3, l4⟩ := unL rv
  have hlist : h₃.IsList a items := ⟨ol, G₃.good.ok.sub _ _ l1, l2, k, l3⟩
  refine call_iter_list (s := { s₁ with heap := h₃, toks := tk₃ }) hlist ?_
  have nI : h₃.get? h₃.objs.size = none := fresh_size _
  have G₄ := G₃.step (Step.of_ext G₃.good.ok.sub fun b o e => Heap.get?_push_of_some (h := h₃) { cls := .type "list_iterator", data := .fields #[.ref a, .int 0 0] } e)
  have gI : g₃ h₃.objs.size = none := sub_none G₃.good.ok.sub nI
  have h0I : s.heap.get? h₃.objs.size = none := G₃.keep.none nI
  have hit : (h₃.push { cls := .type "list_iterator", data := .fields #[.ref a, .int 0 0] }).IsListIter h₃.objs.size a 0 := ⟨_, Heap.get?_push_size _ rfl, rfl, rfl⟩
  have hal : a ≠ h₃.objs.size := Nat.ne_of_lt (Heap.lt_size (G₃.good.ok.sub _ _ l1))
  dsimp only
  generalize hII : h₃.objs.size = I at *
  generalize h₃.push { cls := .type "list_iterator", data := .fields #[.ref a, .int 0 0] } = h₄ at G₄ hit ⊢
  have itKF : ∀ {ga gb : Gh} {ha hb : Heap} {i : Nat}, ha.IsListIter I a i → ga I = none → KF ga gb ha hb → hb.IsListIter I a i ∧ gb I = none := fun {ga gb ha hb i} ⟨o, q1, q2, q3⟩ z kf => ⟨⟨o, (kf _ _ _ q1 q3).1, q2, q3⟩, (kf _ _ _ q1 q3).2 z⟩
  refine G₄.bind (s := { s₁ with heap := h₄, toks := tk₃ }) (x := "it") (v := .ref (.ref I)) (by rw [hsc]; rfl) repR fun h₅ tk₅ G₅ kf₅ => ?_
  obtain ⟨hit₅, gI₅⟩ := itKF hit gI kf₅
  -- the if
  have hif : sx w base n (scopeOf (stAt 14)) (("it", .ref (.ref I)) :: (["function", "sequence", "initial"] : List Str).zip [PV.ref f, .list l, .int a₀]) none (headSt (tailSt (bodyOf (stAt 14)))) (.next (rhoRed a₀ f I) none) :=
    sx.out (Le.cons rfl (Le.cons rfl (Le.cons rfl Le.nil))) (sx.no (tv.cmp (ev.name rfl) (ev.glob T.W hbm (by rfl) (by decide)) (P2.isIR ⟨bm, rfl⟩) PB.bool) (sxs.one (sx.assign (ev.name rfl) rfl)))
  refine wpAny_execs_cons (hif.raw A' env s.heap g g₃ { s₁ with heap := h₅, toks := tk₅ } hsc G₅ _ _ fun fl h₆ tk₆ g₆ okk => ?_)
  obtain ⟨rfl, G₆, gr₆, kf₆⟩ := okk
  obtain ⟨hit₆, gI₆⟩ := itKF hit₅ gI₅ kf₆
  refine wpAny_execs_cons ?_
  show wpAny _ _ (exec (.For (forTarget redFor) (.Name "it" _) (forBody redFor) [] _) env) _ _ _
  obtain ⟨pit, pi1, pi2⟩ := G₆.good.names "it" (.ref (.ref I)) rfl
  obtain rfl := unR pi2
  refine wpAny_For (wpAny_Name (pi1.load G₆.good.envok.kind ?_) (by decide)) (by intro _; rfl)
  have hn : items.size = l.length := by have := l4.length; simpa using this
  have WW := Walks.list (prog := prog) (w := w) hh I a hal items
  have lst : ∀ {h : Heap} {g' : Gh}, Sub g' h → g' a = some ol → h.IsList a items := fun {h g'} sb z => ⟨ol, sb _ _ z, l2, k, l3⟩
  have ga₆ : g₆ a = some ol := gr₆ _ _ l1
  refine WW.self 0 _ _ _ ⟨hit₆, lst G₆.good.ok.sub ga₆⟩ ?_
  refine codeAny_for (fun m s' => ∃ i h tk g', s' = { s₁ with heap := h, toks := tk } ∧ i ≤ l.length ∧ m = l.length - i ∧ h.IsListIter I a i ∧ g' a = some ol ∧ g' I = none ∧ RepL g' l items.toList ∧ GS base n A' env s.heap g g' (rhoRed ((l.take i).foldl F a₀) f I) none h) ?_ l.length
    ⟨0, h₆, tk₆, g₆, rfl, Nat.zero_le _, rfl, hit₆, ga₆, gI₆, l4.mono gr₆, G₆⟩
  rintro m s' ⟨i, h, tk, g', rfl, hi, rfl, hti, ga, gIn, rl, GG⟩
  have mv : ∀ {h' : Heap}, (∀ b o, b ∉ [I] → h.get? b = some o → h'.get? b = some o) → GS base n A' env s.heap g g' (rhoRed ((l.take i).foldl F a₀) f I) none h' := fun {h'} kk => by
    refine GG.moves (S := s.heap) (Soft.refl _) ⟨fun b o e e' => kk b o (fun z => by rw [List.mem_singleton.mp z, h0I] at e; cases e) e', fun b o e hf => kk b o (fun z => ?_) e, fun _ _ e => e, fun _ _ e => .inl e, fun b o e => kk b o (fun z => by rw [List.mem_singleton.mp z, gIn] at e; cases e) (GG.good.ok.sub b o e)⟩
    obtain ⟨o', q1, q2, q3⟩ := hti
    rw [List.mem_singleton.mp z, q1] at e; cases e
    exact hf _ q3
  by_cases hlt : i < l.length
  · refine WW.item i { s₁ with heap := h, toks := tk } _ _ (by omega) ⟨hti, lst GG.good.ok.sub ga⟩ fun v h' tk' hv hst' kk => ?_
    have GG' := mv kk
    obtain ⟨hti', _⟩ := hst'
    obtain ⟨u, hu, ru⟩ := rl.get (List.getElem?_eq_getElem hlt)
    have huv : u = v := by
      have : items[i]? = some u := by simpa using hu
      rw [hv] at this; exact (Option.some.inj this).symm
    subst huv
    refine letOwned_plain (s := { s₁ with heap := h', toks := tk' }) (let ⟨o, q1, q2, q3⟩ := hti'; ⟨o, _, _, q1, q2, q3, by decide⟩) ?_
    have hbd : sxs w base n (scopeOf (stAt 14)) (("element", l[i]) :: rhoRed ((l.take i).foldl F a₀) f I) none (forBody redFor) (.next (rhoRed ((l.take (i + 1)).foldl F a₀) f I) none) := by
      have e : (l.take (i + 1)).foldl F a₀ = F ((l.take i).foldl F a₀) l[i] := by
        rw [List.take_add_one, List.getElem?_eq_getElem hlt, List.foldl_append]; rfl
      rw [e]
      exact sxs.out (Le.cons rfl (Le.cons rfl (Le.cons rfl Le.nil))) (sxs.one (sx.assign (ev.call (ev.name rfl) hf (evs.cons (ev.name rfl) (evs.cons (ev.name rfl) evs.nil)) (hF _ _ (List.getElem_mem hlt))) rfl))
    refine (asg.name (x := "element") (ow := none) (by rfl)).raw A' env s.heap g g' { s₁ with heap := h', toks := tk' } u hsc GG' ru _ _ fun h₇ tk₇ G₇ kf₇ => ?_
    obtain ⟨hti₇, gI₇⟩ := itKF hti' gIn kf₇
    refine hbd.raw A' env s.heap g g' { s₁ with heap := h₇, toks := tk₇ } hsc G₇ _ _ fun fl h₈ tk₈ g₈ okk => ?_
    obtain ⟨rfl, G₈, gr₈, kf₈⟩ := okk
    obtain ⟨hti₈, gI₈⟩ := itKF hti₇ gI₇ kf₈
    exact ⟨l.length - (i + 1), by omega, i + 1, h₈, tk₈, g₈, rfl, hlt, rfl, hti₈, gr₈ _ _ ga, gI₈, rl.mono gr₈, G₈⟩
  · have hil : i = l.length := by omega
    subst hil
    refine WW.done { s₁ with heap := h, toks := tk } _ _ (by rw [hn]; exact ⟨hti, lst GG.good.ok.sub ga⟩) fun h' tk' kk => ?_
    have GG' := mv kk
    refine wpAny_execs_nil ?_
    have hret : sxs w base n (scopeOf (stAt 14)) (rhoRed ((l.take l.length).foldl F a₀) f I) none (tailSt (tailSt (tailSt (bodyOf (stAt 14))))) (.ret (.int (l.foldl F a₀))) := by
      rw [List.take_length]
      exact sxs.ret (sx.ret (ev.name rfl))
    refine hret.raw A' env s.heap g g' { s₁ with heap := h', toks := tk' } hsc GG' _ _ fun fl h₈ tk₈ g₈ okk => ?_
    obtain ⟨pv, rfl, st, rv⟩ := okk
    subst es
    exact hq pv h₈ tk₈ g₈ st rv
end
end Mine
end
section
open PySem PySem.W PyProof.Rows PySem.Calls PySem.SeqAt
set_option maxRecDepth 100000
set_option maxHeartbeats 1000000
namespace Mine

noncomputable def numbersOf (ns : List Int) : List Int := [4350] ++ ns.take 6 ++ [1457, 272 + 735 * ((15 + ns.sum).fmod 16)]
noncomputable def clsOf (ns : List Int) : List Cl := (numbersOf ns).map clauseOf
noncomputable def docN (ns : List Int) : Str := Txt.join "" ((clsOf ns).map writtenOf)
noncomputable def firstOf (ns : List Int) : Nat := ((33188 + ns.sum).fmod 65536).toNat
noncomputable def cntOf (ns : List Int) : Nat := (faultGo 1 1 0 (clsOf ns)).1
noncomputable def wrdOf (ns : List Int) : Str := (faultGo 1 1 0 (clsOf ns)).2
noncomputable def signA (m : Int) (i : Nat) : Nat := (fmode m).cps.toList.getD i 0
noncomputable def Hof (m : Int) (c : Nat) : B4 := seenB (signA m (3 * c + 1)) (signA m (3 * c + 2)) (signA m (3 * c + 3))
noncomputable def stepF (m : Int) : PV → Int
  | .list [.str a, .str b, .str c] => stepGo m (Hof m) a b c 3
  | _ => 0

theorem glue_list (l : List Str) : ∀ acc : Array Nat, (l.foldl (fun acc p => acc ++ (Str.ofString "").cps ++ p.cps) acc).toList = acc.toList ++ (l.map (·.cps.toList)).flatten := by
  induction l with
  | nil => intro acc; simp
  | cons a r ih =>
    intro acc
    rw [List.foldl_cons, ih, List.map_cons, List.flatten_cons, Array.toList_append, Array.toList_append]
    have : (Str.ofString "").cps.toList = [] := rfl
    rw [this]; simp
theorem join_list (l : List Str) : (Txt.join "" l).cps.toList = (l.map (·.cps.toList)).flatten := by
  cases l with
  | nil => rfl
  | cons a r =>
    show (List.foldl (fun acc p => acc ++ (Str.ofString "").cps ++ p.cps) a.cps r).toList = _
    rw [glue_list]; rfl
theorem str_len (x : Str) : x.length = x.cps.toList.length := rfl
theorem join_len (l : List Str) : (Txt.join "" l).length = (l.map (·.length)).sum := by
  rw [str_len, join_list, List.length_flatten, List.map_map]; rfl
theorem cut_nat {x : Str} {a b : Nat} (hab : a ≤ b) (hb : b ≤ x.length) : cut x a b = ⟨((x.cps.toList.drop a).take (b - a)).toArray⟩ := by
  have h := StrLaws.sliced_plain x hab hb
  unfold cut
  split
  · rename_i hl
    have hl' : (Builtin.Str.strSliceIndices (some (a : Int)) (some (b : Int)) 1 x.length).length = x.length := eq_of_beq hl
    rw [StrLaws.strSliceIndices_plain hab hb, List.length_map, List.length_range] at hl'
    have e1 : x.cps.toList.length = x.length := rfl
    rcases Nat.eq_zero_or_pos x.length with z | z
    · obtain ⟨cps⟩ := x
      have : cps.toList = [] := List.eq_nil_of_length_eq_zero z
      have hc : cps = #[] := by simpa using this
      subst hc
      simp
    · have ha : a = 0 := by omega
      have hbb : b = x.length := by omega
      subst ha
      rw [hbb, ← e1, Nat.sub_zero, List.drop_zero, List.take_length]
  · rw [h]
theorem fmodeL_one (m : Int) : ∀ s ∈ fmodeL m, s.length = 1 := by
  intro s hs
  simp only [fmodeL, List.mem_map] at hs
  obtain ⟨p, hp, rfl⟩ := hs
  refine pick_len _ _ _ ?_
  have hp' : p.1 ∈ tab := by
    obtain ⟨a, b⟩ := p
    exact (List.mem_zipIdx' hp).2 ▸ List.getElem_mem _
  revert hp'
  generalize p.1 = r
  revert r
  decide +kernel
theorem sum_ones {α : Type} (f : α → Nat) : ∀ l : List α, (∀ s ∈ l, f s = 1) → (l.map f).sum = l.length
  | [], _ => rfl
  | a :: r, h => by rw [List.map_cons, List.sum_cons, sum_ones f r fun s hs => h s (List.mem_cons_of_mem _ hs), h a List.mem_cons_self, List.length_cons]; omega
theorem fmode_len (m : Int) : (fmode m).length = 10 := by
  unfold fmode
  rw [join_len, sum_ones _ _ (fmodeL_one m), fmodeL_len]
theorem three_of {l : List Nat} {i : Nat} (h : i + 3 ≤ l.length) : (l.drop i).take 3 = [l.getD i 0, l.getD (i + 1) 0, l.getD (i + 2) 0] := by
  rw [List.drop_eq_getElem_cons (by omega), List.drop_eq_getElem_cons (by omega), List.drop_eq_getElem_cons (by omega)]
  have e : ∀ {j : Nat} (hj : j < l.length), l.getD j 0 = l[j] := fun hj => by rw [List.getD_eq_getElem?_getD, List.getElem?_eq_getElem hj]; rfl
  rw [e (by omega), e (by omega), e (by omega)]
  rfl
theorem fmode_cut (m : Int) (c : Nat) (hc : c < 3) : cut (fmode m) (3 * (c : Int) + 1) (3 * (c : Int) + 4) = ⟨#[signA m (3 * c + 1), signA m (3 * c + 2), signA m (3 * c + 3)]⟩ := by
  have h1 := fmode_len m
  have e1 : (3 * (c : Int) + 1) = ((3 * c + 1 : Nat) : Int) := by omega
  have e2 : (3 * (c : Int) + 4) = ((3 * c + 4 : Nat) : Int) := by omega
  rw [e1, e2, cut_nat (by omega) (by omega)]
  have e3 : 3 * c + 4 - (3 * c + 1) = 3 := by omega
  rw [e3, three_of (by rw [← str_len]; omega)]
  rfl

theorem pv_written {a b : Cl} (h : a.pv = b.pv) : writtenOf a = writtenOf b := by
  obtain ⟨w1, d1, t1, g1⟩ := a
  obtain ⟨w2, d2, t2, g2⟩ := b
  simp only [Cl.pv, PV.tup.injEq, List.cons.injEq, PV.int.injEq, PV.str.injEq, and_true] at h
  obtain ⟨h1, h2, h3, h4⟩ := h
  have e1 : w1 = w2 := by omega
  have e3 : t1 = t2 := by omega
  subst e1 e3
  simp only [writtenOf, h2, h4]
theorem clsOf_ok (ns : List Int) : ∀ a ∈ clsOf ns, a.Ok := fun a ha => by
  obtain ⟨x, _, rfl⟩ := List.mem_map.mp ha
  exact clauseOf_ok x
theorem clsOf_len (ns : List Int) : (clsOf ns).length ≤ 9 := by
  simp only [clsOf, numbersOf, List.length_map, List.length_append, List.length_cons, List.length_nil, List.length_take]
  omega
theorem written_le {a : Cl} (h : a.Ok) : (writtenOf a).length ≤ 17 := by
  rw [written_len]
  have h1 := words_len h.who7
  have h2 := rights_len h.what
  have h3 := gap_len h.gap
  have h4 : (deedS a.deed).length = 1 := rfl
  omega
theorem doc_len (ns : List Int) : (docN ns).length ≤ 153 := by
  unfold docN
  rw [join_len]
  have key : ∀ l : List Cl, (∀ a ∈ l, a.Ok) → ((l.map writtenOf).map (·.length)).sum ≤ 17 * l.length := by
    intro l
    induction l with
    | nil => intro _; simp
    | cons a r ih =>
      intro h
      have h1 := ih fun x hx => h x (List.mem_cons_of_mem _ hx)
      have h2 := written_le (h a List.mem_cons_self)
      simp only [List.map_cons, List.sum_cons, List.length_cons]
      omega
  have := key (clsOf ns) (clsOf_ok ns)
  have := clsOf_len ns
  omega
end Mine
end
section
open PySem PySem.W PyProof.Rows PySem.Calls PySem.SeqAt
set_option maxRecDepth 100000
set_option maxHeartbeats 1000000
namespace Mine

/-- what the plain law must say -/
structure Plain (ns : List Int) (l : List PV) : Prop where
  last : l.foldl stepF (firstOf ns : Int) = dueNumber ((clsOf ns).take (cntOf ns)) (firstOf ns) 3
  sign : fmode (dueNumber ((clsOf ns).take (cntOf ns)) (firstOf ns) 3) = dueSigns ((clsOf ns).take (cntOf ns)) (firstOf ns) 3
  form : ∀ q ∈ l, ∃ a b c, q = .list [.str a, .str b, .str c]

noncomputable def rhoL (ns : List Int) : Rho := [("document", .str (docN ns)), ("clauses", .list ((clsOf ns).map Cl.pv)), ("first", .int (firstOf ns))]
noncomputable def lawSt (k : Nat) : Stmt := ((bodyOf (stAt 49))[k]?).getD (stAt 0)
section
variable {ph : Ph} {w : World} {base : Heap} {n : Nat} {sc : Scope} {ρ ρ' : Rho} {ow ow' : Ow} {GL : Str → Option Value} {X C : Addr}
theorem ftrue {α : Type} (l : List α) : (l.filter fun _ => true) = l := List.filter_eq_self.mpr fun _ _ => rfl
/-- the first five statements -/
theorem law_pre (T : Tops GL base) (ns : List Int) (hn : ns.length ≤ 100) {rest : List Stmt} {out : OutX} [ph.Ok base] (hrest : xss ph w base (n + 6) (scopeOf (stAt 49)) (rhoL ns) none rest out) : xss ph w base (n + 6) (scopeOf (stAt 49)) [("script", .list (ns.map .int))] none (lawSt 0 :: lawSt 1 :: lawSt 2 :: lawSt 3 :: lawSt 4 :: rest) out := by
  have hz : sizeLine = 16777216 := by decide
  have hcl := clsOf_len ns
  have hdl := doc_len ns
  have hf : (33188 + ns.sum).fmod 65536 = (firstOf ns : Int) := by
    unfold firstOf
    have := Int.fmod_nonneg_of_pos (33188 + ns.sum) (show (0 : Int) < 65536 by decide)
    omega
  refine xss.cons (xs.of (sx.assign (v := .int ns.sum) (ev.cg T.W (evs.cons (ev.name rfl) evs.nil) (CG.sum T)) rfl)) ?_
  refine xss.cons (xs.of (sx.assign (v := .int (firstOf ns)) (ev.to (ev.binop (ev.binop ev.int (ev.name rfl) P2.add) ev.int (P2.mod T.W (by decide))) (by rw [hf])) rfl)) ?_
  refine xss.cons (xs.of (sx.assign (v := .list ((numbersOf ns).map .int)) (ev.to (ev.binop (ev.binop (ev.list (evs.cons ev.int evs.nil)) (ev.cutL (k := 6) (ev.name rfl) ev.int ?_) (P2.addL ?_)) (ev.list (evs.cons ev.int (evs.cons (ev.binop ev.int (ev.binop ev.int (ev.binop (ev.binop ev.int (ev.name rfl) P2.add) ev.int (P2.mod T.W (by decide))) (P2.mul (.inl (by decide)))) P2.add) evs.nil))) (P2.addL ?_)) ?_) rfl)) ?_
  · rw [List.length_map]; omega
  · simp only [List.length_take, List.length_map, List.length_cons, List.length_nil]; omega
  · simp only [List.length_append, List.length_take, List.length_map, List.length_cons, List.length_nil]; omega
  · simp only [numbersOf, List.map_append, List.map_cons, List.map_nil, List.map_take]
  have hcls : ((numbersOf ns).filter fun _ => true).map (fun x => (clauseOf x).pv) = (clsOf ns).map Cl.pv := by rw [ftrue]; simp only [clsOf, List.map_map]; rfl
  refine xss.cons (xs.of (sx.assignA (numbersOf ns) PV.int (fun _ => true) (fun x => (clauseOf x).pv) rfl (ev.name rfl) IT.list (fun a ha => tvs.nil) (fun a ha _ => ev.cg T.W (evs.cons (ev.name rfl) evs.nil) (CG.up (c_clause (n := n) T a) (by omega))) (fun a _ b _ e => by cases e; exact ⟨rfl, rfl⟩) ?_ rfl (by intro env h; unfold swapsWith; simp only [Env.blockKind, Env.kindOf, h]; rfl))) ?_
  · simp only [numbersOf, List.length_append, List.length_cons, List.length_nil, List.length_take]; omega
  rw [hcls]
  refine xss.cons (xs.of (sx.assign (v := .str (docN ns)) (ev.methS F.slot_str_join F.type_str_join ev.str (evs.cons (ev.to (v' := .list (((clsOf ns).map writtenOf).map .str)) (ev.compA (clsOf ns) Cl.pv (fun _ => true) (fun c => .str (writtenOf c)) rfl (ev.name rfl) IT.list (fun a ha => tvs.nil) (fun a ha _ => ev.cg T.W (evs.cons (ev.name rfl) evs.nil) (CG.up (c_written (n := n) T a (clsOf_ok ns a ha)) (by omega))) (fun a _ b _ e => ⟨rfl, by rw [pv_written e]⟩) ?_) ?_) evs.nil) (CON.join ?_)) rfl)) (xss.le (Le.cons rfl (Le.cons rfl (Le.cons rfl Le.nil))) hrest)
  · omega
  · rw [ftrue]; simp only [List.map_map]; rfl
  · have := doc_len ns
    unfold docN at this
    rw [join_len] at this
    have e0 : (Str.ofString "").length = 0 := rfl
    rw [e0]; omega
end
end Mine
end
section
open PySem PySem.W PyProof.Rows PySem.Calls PySem.SeqAt
set_option maxRecDepth 100000
set_option maxHeartbeats 1000000
namespace Mine

/-- what reduce needs -/
structure TopD (GL : Str → Option Value) (base : Heap) : Prop where
  reduce : DefAt GL base "reduce" 14 ["function", "sequence", "initial"]
  iter : GL "iter" = some (.builtin "iter")
  miss : ∃ b, GL "_initial_missing" = some (.ref b)

section
variable {ph : Ph} {w : World} {base : Heap} {n : Nat} {sc : Scope} {ρ ρ' : Rho} {ow ow' : Ow} {GL : Str → Option Value} {X C : Addr}
theorem law_post (T : Tops GL base) (D : TopD GL base) {ns : List Int} {l : List PV} (P : Plain ns l) :
    sxs w base (n + 6) (scopeOf (stAt 49)) (("told", .str (wrdOf ns)) :: ("taken", .list l) :: rhoL ns) none [lawSt 6, lawSt 7, lawSt 8] (.ret (.bool true)) := by
  have hz : sizeLine = 16777216 := by decide
  have hcl := clsOf_len ns
  obtain ⟨f, f1, f2⟩ := T.step
  have hF : ∀ m q, q ∈ l → CON w base (n + 3) (.ref f) [.int m, q] (.int (stepF m q)) := fun m q hq => by
    obtain ⟨a, b, c, rfl⟩ := P.form q hq
    obtain ⟨f', g1, g2, g3⟩ := c_step (w := w) (n := n) T m a b c (fun c => signA m (3 * c + 1)) (fun c => signA m (3 * c + 2)) (fun c => signA m (3 * c + 3)) (fmode_cut m)
    rw [f1] at g1; cases g1
    exact g3
  have hR := c_reduce (w := w) (n := n + 3) T D.reduce D.iter D.miss f2.calls (F := stepF) (a₀ := firstOf ns) hF
  have hR' := CG.up hR (show n + 3 + 1 ≤ n + 6 by omega)
  refine sxs.cons (sx.assign (v := .int (dueNumber ((clsOf ns).take (cntOf ns)) (firstOf ns) 3)) (ev.to (ev.cg T.W (evs.cons (ev.glob T.W f1 (by rfl) (by decide)) (evs.cons (ev.name rfl) (evs.cons (ev.name rfl) evs.nil))) hR') (by rw [P.last])) rfl) ?_
  refine sxs.cons (sx.assignT (ev.cg T.W (evs.cons (ev.name rfl) evs.nil) (CG.up (c_fault (n := n) T (clsOf ns) (clsOf_ok ns) (by omega)) (by omega))) (asg.tup (l := [("count", _), ("words", _)]) rfl rfl)) ?_
  have hok : ∀ a ∈ (clsOf ns).take (cntOf ns), a.Ok := fun a ha => clsOf_ok ns a (List.mem_of_mem_take ha)
  refine sxs.ret (sx.ret (ev.cmp (a := .list [.str (wrdOf ns), .int (dueNumber ((clsOf ns).take (cntOf ns)) (firstOf ns) 3), .str (dueSigns ((clsOf ns).take (cntOf ns)) (firstOf ns) 3)]) (ev.to (ev.list (evs.cons (ev.name rfl) (evs.cons (ev.name rfl) (evs.cons (ev.cg T.W (evs.cons (ev.name rfl) evs.nil) (CG.up (c_filemode (n := n) T _) (by omega))) evs.nil)))) (by rw [P.sign]))
    (ev.to (ev.binop (ev.list (evs.cons (ev.name rfl) evs.nil)) (ev.cg T.W (evs.cons (ev.to (v' := .list (((clsOf ns).take (cntOf ns)).map Cl.pv)) (ev.cutL (k := cntOf ns) (ev.name rfl) (ev.name rfl) (by rw [List.length_map]; omega)) (by rw [List.map_take])) (evs.cons (ev.name rfl) evs.nil)) (CG.up (c_due (n := n) T ((clsOf ns).take (cntOf ns)) (firstOf ns) hok (by rw [List.length_take]; omega) ?_) (by omega))) (P2.addL (by show 1 + 2 ≤ sizeLine; omega))) rfl) (P2.eqL ?_)))
  · have := Int.fmod_lt_of_pos (33188 + ns.sum) (show (0 : Int) < 65536 by decide)
    unfold firstOf; omega
  · intro p hp
    simp only [List.mem_cons, List.not_mem_nil, or_false] at hp
    rcases hp with rfl | rfl | rfl <;> trivial

/-- the law, read without a fault -/
theorem c_law_ok (R : TopR GL base X C) (D : TopD GL base) {f : Addr} (L : IsDef base f (stAt 49) ["script"]) {ns : List Int} (hn : ns.length ≤ 100) {k0 k p : Nat} {l : List PV} (h0 : Ws (docN ns) k0 0 p) (h : Rd (docN ns) k p [] l (wrdOf ns) false) (P : Plain ns l) :
    CON w base (n + 7) (.ref f) [.list (ns.map .int)] (.bool true) := by
  have hdl := doc_len ns
  haveI := ph0_ok (base := base)
  refine CONS.defs (ph := ph0) R.T1.W L (by decide) rfl ?_
  have e : bodyOf (stAt 49) = [lawSt 0, lawSt 1, lawSt 2, lawSt 3, lawSt 4, lawSt 5, lawSt 6, lawSt 7, lawSt 8] := rfl
  rw [e]
  refine law_pre (n := n) R.T1 ns hn ?_
  refine xss.cons (xs.of (sx.assignT (ev.cg R.T1.W (evs.cons (ev.name rfl) evs.nil) (c_read_ok (n := n) R (by omega) h0 h)) (asg.tup (l := [("taken", _), ("told", _)]) rfl rfl))) ?_
  exact xss.of (law_post R.T1 D P)
end
section
variable {ph : Ph} {w : World} {base : Heap} [hp : ph.Ok base] {n : Nat} {sc : Scope} {ρ ρ' : Rho} {ow ow' : Ow} {GL : Str → Option Value} {X C : Addr}
theorem ev2.call {x : Str} {p pos : Pos} {es : List Expr} {f : Value} {vs : List PV} {r : PV} (hf : ev w base n sc ρ (.Name x p) (.ref f)) (hk : Calls base f) (ha : evs w base n sc ρ es vs) (hc : CON2 ph w base n f vs r)
    (hpl : ∀ env, (backTo pos (starEach es env)).any (·.1) = false := by intros; rfl) (hne : ∀ env, ∃ x r, backTo pos (starEach es env) = x :: r := by intros; exact ⟨_, _, rfl⟩) : ev2 ph w base n sc ρ (.Call (.Name x p) es [] pos) r :=
  ⟨fun A env g s hs G Q E hq => by
    show wpAny _ _ (do callWith pos (← eval (.Name x p) env) [] (backTo pos (starEach es env)) (backToKw pos (keywordEach [] env))) Q E s
    refine wpAny_bind (hf.raw A env g s hs G _ _ fun fv h₁ tk₁ g₁ st₁ rf => ?_)
    obtain rfl := unR rf
    exact callWith_vals hk hs (G.step st₁) ha.raw (hpl env) (hne env) fun xs h₂ tk₂ g₂ st₂ rx => hc A g₂ _ xs ((G.step st₁).step st₂).ok rx _ _ fun pv h₃ tk₃ g₃ st₃ hP rv => hq pv h₃ tk₃ g₃ ((hp.step (st₁.trans st₂)).trans st₃) hP rv⟩
/-- a statement in which the phase changes -/
theorem xss.switch {es : List Expr} {k : Nat} {tpos pos : Pos} {value : Expr} {v r : PV} {rest : List Stmt} (hv : ev2 ph w base n sc ρ value v) (ha : asg w (ph.b base) n sc ρ ow (.Tuple es k tpos) v ρ') (hr : sxs w (ph.b base) n sc ρ' ow rest (.ret r))
    (hs1 : ∀ env, swapsWithSole [.Tuple es k tpos] value pos.line env = pure false := by intros; rfl) (hs2 : ∀ env, swappedStores [.Tuple es k tpos] value env = pure none := by intros; rfl) : xss ph w base n sc ρ ow (.Assign [.Tuple es k tpos] value pos :: rest) (.ret2 r) :=
  ⟨fun A env h₀ g₀ g s hs hac G Q E hq => wpAny_execs_cons (Assign_Tuple (hv.raw A env g s hs G.good _ _ fun pv h' tk g' st hP rv => by
    have G' := (hp.gs G).step st
    have G2 : GS (ph.b base) n A env (ph.h h₀) g' g' ρ ow h' := ⟨G'.good, G'.keep, fun _ _ e => e, fun _ _ e => .inl e, G'.loc, G'.cel, G'.inj, G'.own⟩
    refine ha.raw A env (ph.h h₀) g' g' { s with heap := h', toks := tk } pv hs G2 rv _ _ fun h'' tk' G'' kf =>
      hr.raw A env (ph.h h₀) g' g' { s with heap := h'', toks := tk' } hs G'' _ _ fun fl h3 tk3 g3 ok => ?_
    obtain ⟨pv2, rfl, a, b⟩ := ok
    exact hq pv2 h3 tk3 g3 ⟨a.ext, fun x o e => a.grow x o (G'.grow x o e), fun x o e => (a.new x o e).elim (G'.new x o) .inr, a.sub⟩ (hp.mono a.grow hP) b) (hs1 env) (hs2 env))⟩
/-- the law, with a fault -/
theorem c_law_x (R : TopR GL base X C) (D : TopD GL (base.hide X)) {f : Addr} (L : IsDef base f (stAt 49) ["script"]) {ns : List Int} (hn : ns.length ≤ 100) {k0 k p : Nat} {l : List PV} (h0 : Ws (docN ns) k0 0 p) (h : Rd (docN ns) k p [] l (wrdOf ns) true) (P : Plain ns l) :
    CON2 (ph1 X) w base (n + 7) (.ref f) [.list (ns.map .int)] (.bool true) := by
  haveI := R.ph
  have hdl := doc_len ns
  refine CON2.defs R.T1.W L (by decide) rfl ?_
  have e : bodyOf (stAt 49) = [lawSt 0, lawSt 1, lawSt 2, lawSt 3, lawSt 4, lawSt 5, lawSt 6, lawSt 7, lawSt 8] := rfl
  rw [e]
  refine law_pre (n := n) R.T1 ns hn ?_
  obtain ⟨fr, r1, r2, r3⟩ := c_read_x (w := w) (n := n) R (by omega) h0 h
  exact xss.switch (ev2.call (ev.glob R.T1.W r1 (by rfl) (by decide)) r2 (evs.cons (ev.name rfl) evs.nil) r3) (asg.tup (l := [("taken", _), ("told", _)]) rfl rfl) (law_post R.T D P)
end
end Mine
end
section
open PySem PySem.W PyProof.Rows PySem.Calls PySem.SeqAt
set_option maxRecDepth 100000
set_option maxHeartbeats 1000000
namespace Mine

/-- the right k of class d, behind the clauses (the last one first) -/
noncomputable def Gf (first k : Nat) : List Cl → Nat → Bool
  | [], d => Builtin.bitAnd first ((worthsOf d).getD k 0) != 0
  | a :: r, d => match led1 a k d with
    | none => true
    | some l => l.any (Gf first k r)
theorem led1_lt {a : Cl} (ha : a.Ok) {k d : Nat} (hd : d < 3) {m : List Nat} (h : led1 a k d = some m) : ∀ x ∈ m, x < 3 := by
  have hw := ha.what
  unfold led1 at h
  split at h
  · cases h; intro x hx; simp at hx; omega
  · split at h
    · split at h <;> (cases h; intro x hx; simp at hx; omega)
    · split at h
      · split at h
        · cases h; simp
        · cases h
      · split at h
        · cases h; simp
        · cases h; intro x hx; simp at hx; omega
theorem ledGo_any {a : Cl} {k : Nat} (g : Nat → Bool) : ∀ (ds led : List Nat),
    (match ledGo a k led ds with | none => true | some l => l.any g) = (led.any g || ds.any fun d => match led1 a k d with | none => true | some l => l.any g) ∨ (ledGo a k led ds = none ∧ (ds.any fun d => match led1 a k d with | none => true | some l => l.any g) = true)
  | [], led => .inl (by show led.any g = _; simp)
  | d :: r, led => by
    unfold ledGo
    cases h : led1 a k d with
    | none => right; simp [h]
    | some m =>
      dsimp only
      rcases ledGo_any g r (led ++ m) with q | ⟨q1, q2⟩
      · left; rw [q, List.any_append, List.any_cons, h]; simp [Bool.or_assoc]
      · right; exact ⟨q1, by rw [List.any_cons, q2, Bool.or_true]⟩
theorem ledGo_lt {a : Cl} (ha : a.Ok) {k : Nat} : ∀ (ds led : List Nat), (∀ d ∈ ds, d < 3) → (∀ x ∈ led, x < 3) → ∀ l, ledGo a k led ds = some l → ∀ x ∈ l, x < 3
  | [], led, _, hl, l, h => by cases h; exact hl
  | d :: r, led, hd, hl, l, h => by
    unfold ledGo at h
    cases h1 : led1 a k d with
    | none => rw [h1] at h; cases h
    | some m =>
      rw [h1] at h
      exact ledGo_lt ha r (led ++ m) (fun x hx => hd x (List.mem_cons_of_mem _ hx)) (fun x hx => (List.mem_append.mp hx).elim (hl x) (led1_lt ha (hd d List.mem_cons_self) h1 x)) l h
theorem askedOf_any {l : List Nat} (hl : ∀ x ∈ l, x < 3) (g : Nat → Bool) : (askedOf l).any g = l.any g := by
  rw [Bool.eq_iff_iff, List.any_eq_true, List.any_eq_true]
  unfold askedOf
  constructor
  · rintro ⟨x, hx, hg⟩
    obtain ⟨_, h2⟩ := List.mem_filter.mp hx
    obtain ⟨y, hy, he⟩ := List.any_eq_true.mp h2
    exact ⟨y, hy, by rw [eq_of_beq he]; exact hg⟩
  · rintro ⟨x, hx, hg⟩
    exact ⟨x, List.mem_filter.mpr ⟨List.mem_range.mpr (hl x hx), List.any_eq_true.mpr ⟨x, hx, beq_self_eq_true x⟩⟩, hg⟩
theorem askedOf_lt {l : List Nat} : ∀ d ∈ askedOf l, d < 3 := fun d hd => List.mem_range.mp (List.mem_filter.mp hd).1
theorem traced_eq (first k : Nat) : ∀ (cs : List Cl) (asked : List Nat), (∀ a ∈ cs, a.Ok) → (∀ d ∈ asked, d < 3) → tracedGo first k asked cs = (asked.any (Gf first k cs)).toNat
  | [], asked, _, _ => by
    show (if _ then 1 else 0) = _
    cases h : asked.any (fun d => (Builtin.bitAnd first ((worthsOf d).getD k 0)) != 0) with
    | true => rw [if_pos rfl, show asked.any (Gf first k []) = true from h]; rfl
    | false => rw [if_neg (by decide), show asked.any (Gf first k []) = false from h]; rfl
  | a :: r, asked, hok, hlt => by
    have ha := hok a List.mem_cons_self
    show (match ledGo a k [] asked with | none => 1 | some led => tracedGo first k (askedOf led) r) = _
    have e : (asked.any (Gf first k (a :: r))) = asked.any fun d => match led1 a k d with | none => true | some l => l.any (Gf first k r) := rfl
    rw [e]
    cases h : ledGo a k [] asked with
    | none =>
      dsimp only
      rcases ledGo_any (Gf first k r) (a := a) (k := k) asked [] with q | ⟨_, q⟩
      · rw [h] at q
        simp only [List.any_nil, Bool.false_or] at q
        rw [← q]; rfl
      · rw [q]; rfl
    | some led =>
      dsimp only
      rw [traced_eq first k r (askedOf led) (fun x hx => hok x (List.mem_cons_of_mem _ hx)) askedOf_lt]
      rw [askedOf_any (ledGo_lt ha asked [] hlt (by simp) led h)]
      rcases ledGo_any (Gf first k r) (a := a) (k := k) asked [] with q | ⟨q, _⟩
      · rw [h] at q
        simp only [List.any_nil, Bool.false_or] at q
        rw [← q]
      · rw [h] at q; cases q
theorem held_eq {cs : List Cl} (hok : ∀ a ∈ cs, a.Ok) {first c k : Nat} (hc : c < 3) : held cs first c k = (Gf first k cs.reverse c).toNat := by
  unfold held
  rw [traced_eq first k cs.reverse [c] (fun a ha => hok a (List.mem_reverse.mp ha)) (by simpa using hc)]
  simp

/-- the four rights of a class -/
noncomputable def Fb (first : Nat) (rev : List Cl) (c : Nat) : B4 := ⟨Gf first 0 rev c, Gf first 1 rev c, Gf first 2 rev c, Gf first 3 rev c⟩
theorem who_is {who c : Nat} (h1 : 1 ≤ who) (h : who ≤ 7) (hc : c < 3) : (wordsOf who == "a" || inS (signAt [117, 103, 111] c) (wordsOf who)) = who.testBit c := by
  have : ∀ who, who < 8 → 1 ≤ who → ∀ c, c < 3 → (wordsOf who == "a" || inS (signAt [117, 103, 111] c) (wordsOf who)) = who.testBit c := by decide +kernel
  exact this who (by omega) h1 c hc
theorem named_is {what : Nat} (h : what < 35) : (["u", "g", "o"] : List Str).any (· == rightsOf what) = decide (31 < what) ∧ (31 < what → ugoIx (rightsOf what) = what - 32) := by
  have : ∀ what, what < 35 → (["u", "g", "o"] : List Str).any (· == rightsOf what) = decide (31 < what) ∧ (31 < what → ugoIx (rightsOf what) = what - 32) := by decide +kernel
  exact this what h
theorem rights_is {what c : Nat} (h : what < 32) (hc : c < 3) : inS "r" (rightsOf what) = (what &&& maskOf 0 c != 0) ∧ inS "w" (rightsOf what) = (what &&& maskOf 1 c != 0) ∧ inS "x" (rightsOf what) = (what &&& maskOf 2 c != 0) ∧ inS (signAt [115, 115, 116] c) (rightsOf what) = (what &&& maskOf 3 c != 0) := by
  have : ∀ what, what < 32 → ∀ c, c < 3 → inS "r" (rightsOf what) = (what &&& maskOf 0 c != 0) ∧ inS "w" (rightsOf what) = (what &&& maskOf 1 c != 0) ∧ inS "x" (rightsOf what) = (what &&& maskOf 2 c != 0) ∧ inS (signAt [115, 115, 116] c) (rightsOf what) = (what &&& maskOf 3 c != 0) := by decide +kernel
  exact this what h c hc
theorem Gf_cons (first k : Nat) (a : Cl) (r : List Cl) (d : Nat) : Gf first k (a :: r) d = match led1 a k d with | none => true | some l => l.any (Gf first k r) := rfl
/-- one step forward -/
theorem step_flag {a : Cl} (ha : a.Ok) {first : Nat} {r : List Cl} {c : Nat} (hc : c < 3) (H : Nat → B4) (hH : ∀ c, c < 3 → H c = Fb first r c) :
    ownOf H (wordsOf a.who) (deedS a.deed) (rightsOf a.what) c = Fb first (a :: r) c := by
  have hw := ha.what
  have hdd := ha.deed
  obtain ⟨n1, n2⟩ := named_is hw
  unfold ownOf
  rw [who_is ha.who1 ha.who7 hc]
  have d0 : (deedS a.deed == ("=" : Str)) = decide (a.deed = 0) := (deed_is hdd).2.2.2
  have d1 : (deedS a.deed == ("+" : Str)) = decide (a.deed = 1) := (deed_is hdd).1
  rw [d0, d1]
  have hFb : ∀ k, k < 4 → (Fb first (a :: r) c).at k = Gf first k (a :: r) c := fun k hk => by
    match k, hk with
    | 0, _ => rfl
    | 1, _ => rfl
    | 2, _ => rfl
    | 3, _ => rfl
  cases hb : a.who.testBit c with
  | false =>
    rw [if_neg (by decide), hH c hc]
    simp only [Fb, Gf_cons, led1, hb, if_true, List.any_cons, List.any_nil, Bool.or_false]
  | true =>
    rw [if_pos rfl]
    unfold namedOf
    rw [n1]
    by_cases h31 : 31 < a.what
    · have e := n2 h31
      have hne2 : a.deed ≠ 2 := fun z => by have := ha.take z; omega
      have hsrc : a.what - 32 < 3 := by omega
      rw [decide_eq_true h31, if_pos rfl, e, hH _ hsrc, hH c hc]
      have hbf : ¬ (a.who.testBit c = false) := by rw [hb]; decide
      have key : ∀ k, Gf first k (a :: r) c = if a.deed = 1 then (Gf first k r (a.what - 32) || Gf first k r c) else Gf first k r (a.what - 32) := fun k => by
        rw [Gf_cons]
        unfold led1
        rw [if_neg hbf, if_pos h31]
        by_cases h1 : a.deed = 1
        · rw [if_pos h1, if_pos h1]; simp
        · rw [if_neg h1, if_neg h1]; simp
      simp only [Fb, key]
      have hcase : a.deed = 0 ∨ a.deed = 1 := by omega
      rcases hcase with h | h
      · rw [h]; simp
      · rw [h]; simp [Bool.or_comm]
    · obtain ⟨r0, r1, r2, r3⟩ := rights_is (c := c) (show a.what < 32 by omega) hc
      rw [decide_eq_false h31, if_neg Bool.false_ne_true, r0, r1, r2, r3, hH c hc]
      have hbf : ¬ (a.who.testBit c = false) := by rw [hb]; decide
      have key : ∀ k, Gf first k (a :: r) c = if (a.what &&& maskOf k c != 0) = true then (if a.deed = 2 then false else true) else (if a.deed = 0 then false else Gf first k r c) := fun k => by
        rw [Gf_cons]
        unfold led1
        rw [if_neg hbf, if_neg h31]
        by_cases hm : a.what &&& maskOf k c = 0
        · have hm' : (a.what &&& maskOf k c != 0) = false := by rw [hm]; rfl
          rw [hm', if_neg (show ¬ (a.what &&& maskOf k c ≠ 0) from fun z => z hm), if_neg Bool.false_ne_true]
          by_cases h0 : a.deed = 0
          · simp [h0]
          · simp [h0]
        · have hm' : (a.what &&& maskOf k c != 0) = true := by simpa using hm
          rw [hm', if_pos (show a.what &&& maskOf k c ≠ 0 from hm), if_pos rfl]
          by_cases h2 : a.deed = 2
          · simp [h2]
          · simp [h2]
      simp only [Fb, key]
      generalize (a.what &&& maskOf 0 c != 0) = x0
      generalize (a.what &&& maskOf 1 c != 0) = x1
      generalize (a.what &&& maskOf 2 c != 0) = x2
      generalize (a.what &&& maskOf 3 c != 0) = x3
      have hcase : a.deed = 0 ∨ a.deed = 1 ∨ a.deed = 2 := by omega
      rcases hcase with h | h | h <;> rw [h] <;> cases x0 <;> cases x1 <;> cases x2 <;> cases x3 <;> simp
end Mine
end
section
open PySem PySem.W PyProof.Rows PySem.Calls PySem.SeqAt
set_option maxRecDepth 100000
set_option maxHeartbeats 1000000
namespace Mine

noncomputable def valB (a b c : B4) : Nat := 256 * a.r.toNat + 128 * a.w.toNat + 64 * a.x.toNat + 2048 * a.s.toNat + (32 * b.r.toNat + 16 * b.w.toNat + 8 * b.x.toNat + 1024 * b.s.toNat) + (4 * c.r.toNat + 2 * c.w.toNat + 1 * c.x.toNat + 512 * c.s.toNat)
noncomputable def modeN (t : Nat) (a b c : B4) : Nat := 4096 * t + valB a b c
theorem and_low {t v b : Nat} (hv : v < 4096) (hb : b < 4096) : (4096 * t + v) &&& b = v &&& b := by
  have h1 : ((4096 * t + v) &&& b) % 2 ^ 12 = (4096 * t + v) &&& b := Nat.mod_eq_of_lt (Nat.lt_of_le_of_lt Nat.and_le_right hb)
  rw [← h1, Nat.and_mod_two_pow, Nat.mul_add_mod]
  rw [Nat.mod_eq_of_lt (show v < 4096 from hv), Nat.mod_eq_of_lt (show b < 2 ^ 12 from hb)]
theorem and_high {t v : Nat} (ht : t < 16) (hv : v < 4096) : (4096 * t + v) &&& 61440 = 4096 * t := by
  have e15 : ∀ t, t < 16 → t &&& 15 = t := by decide
  apply Nat.eq_of_testBit_eq
  intro j
  rw [Nat.testBit_and, show (61440 : Nat) = 2 ^ 12 * 15 from rfl, show (4096 : Nat) = 2 ^ 12 from rfl, Nat.testBit_two_pow_mul_add t hv, Nat.testBit_two_pow_mul, Nat.testBit_two_pow_mul]
  by_cases hj : j < 12
  · rw [if_pos hj, decide_eq_false (by omega)]; simp
  · rw [if_neg hj, decide_eq_true (by omega), Bool.true_and, Bool.true_and, ← Nat.testBit_and, e15 t ht]
theorem and_bits {v m : Nat} (hm : m < 4096) : (v &&& m == m) = (List.range 12).all fun k => !m.testBit k || v.testBit k := by
  rw [Bool.eq_iff_iff, beq_iff_eq, List.all_eq_true]
  constructor
  · intro h k _
    cases hk : m.testBit k with
    | false => rfl
    | true =>
      rw [← h, Nat.testBit_and, Bool.and_eq_true] at hk
      rw [hk.1]; rfl
  · intro h
    apply Nat.eq_of_testBit_eq
    intro k
    rw [Nat.testBit_and]
    by_cases hk : k < 12
    · have := h k (List.mem_range.mpr hk)
      cases h1 : m.testBit k with
      | false => simp
      | true => rw [h1] at this; simpa using this
    · have : m.testBit k = false := Nat.testBit_lt_two_pow (Nat.lt_of_lt_of_le hm (Nat.le_trans (show 4096 ≤ 2 ^ 12 by decide) (Nat.pow_le_pow_right (by decide) (by omega))))
      rw [this]; simp
theorem bit_b {b : Bool} : b.toNat ≤ 1 := by cases b <;> decide
theorem dec_b {b : Bool} : decide (b.toNat = 1) = b := by cases b <;> rfl
theorem val_lt (a b c : B4) : valB a b c < 4096 := by
  unfold valB
  have := bit_b (b := a.r); have := bit_b (b := a.w); have := bit_b (b := a.x); have := bit_b (b := a.s)
  have := bit_b (b := b.r); have := bit_b (b := b.w); have := bit_b (b := b.x); have := bit_b (b := b.s)
  have := bit_b (b := c.r); have := bit_b (b := c.w); have := bit_b (b := c.x); have := bit_b (b := c.s)
  omega
theorem val_bits (a b c : B4) : (valB a b c).testBit 8 = a.r ∧ (valB a b c).testBit 7 = a.w ∧ (valB a b c).testBit 6 = a.x ∧ (valB a b c).testBit 11 = a.s ∧ (valB a b c).testBit 5 = b.r ∧ (valB a b c).testBit 4 = b.w ∧ (valB a b c).testBit 3 = b.x ∧ (valB a b c).testBit 10 = b.s ∧
    (valB a b c).testBit 2 = c.r ∧ (valB a b c).testBit 1 = c.w ∧ (valB a b c).testBit 0 = c.x ∧ (valB a b c).testBit 9 = c.s := by
  obtain ⟨a1, a2, a3, a4⟩ := a
  obtain ⟨b1, b2, b3, b4⟩ := b
  obtain ⟨c1, c2, c3, c4⟩ := c
  revert a1 a2 a3 a4 b1 b2 b3 b4 c1 c2 c3 c4
  decide +kernel
noncomputable def chR (b : Bool) : Nat := if b then 114 else 45
noncomputable def chW (b : Bool) : Nat := if b then 119 else 45
noncomputable def chX (c : Nat) (x s : Bool) : Nat := if s && x then (if c = 2 then 116 else 115) else if s then (if c = 2 then 84 else 83) else if x then 120 else 45
noncomputable def tCh (t : Nat) : Nat := [63, 112, 99, 63, 100, 63, 98, 63, 45, 63, 108, 63, 115, 63, 63, 63].getD t 0
theorem seen_of (c : Nat) (b : B4) : seenB (chR b.r) (chW b.w) (chX c b.x b.s) = b := by
  obtain ⟨r, w, x, s⟩ := b
  have h : ∀ r w x s : Bool, (seenB (chR r) (chW w) (chX 0 x s)).r = r ∧ (seenB (chR r) (chW w) (chX 0 x s)).w = w ∧ (seenB (chR r) (chW w) (chX 0 x s)).x = x ∧ (seenB (chR r) (chW w) (chX 0 x s)).s = s := by decide +kernel
  have h2 : ∀ r w x s : Bool, (seenB (chR r) (chW w) (chX 2 x s)).r = r ∧ (seenB (chR r) (chW w) (chX 2 x s)).w = w ∧ (seenB (chR r) (chW w) (chX 2 x s)).x = x ∧ (seenB (chR r) (chW w) (chX 2 x s)).s = s := by decide +kernel
  have eqB : ∀ (b : B4), b.r = r ∧ b.w = w ∧ b.x = x ∧ b.s = s → b = ⟨r, w, x, s⟩ := by rintro ⟨_, _, _, _⟩ ⟨rfl, rfl, rfl, rfl⟩; rfl
  by_cases hc : c = 2
  · subst hc; exact eqB _ (h2 r w x s)
  · have : chX c x s = chX 0 x s := by simp only [chX, hc, if_false]; rfl
    show seenB (chR r) (chW w) (chX c x s) = _
    rw [this]; exact eqB _ (h r w x s)
end Mine
end
section
open PySem PySem.W PyProof.Rows PySem.Calls PySem.SeqAt
set_option maxRecDepth 100000
set_option maxHeartbeats 1000000
namespace Mine

noncomputable def md (t : Nat) (a b c : B4) : Int := ((modeN t a b c : Nat) : Int)
theorem md_high {t : Nat} (ht : t < 16) (a b c : B4) : Builtin.bitAnd (md t a b c) 61440 = ((4096 * t : Nat) : Int) := by
  show Builtin.bitAnd ((modeN t a b c : Nat) : Int) ((61440 : Nat) : Int) = _
  rw [bandN, show modeN t a b c = 4096 * t + valB a b c from rfl, and_high ht (val_lt a b c)]
theorem beqN (x y : Nat) : ((x : Int) == (y : Int)) = (x == y) := by
  rw [Bool.eq_iff_iff, beq_iff_eq, beq_iff_eq]; omega
theorem md_hit {t m : Nat} (a b c : B4) (hm : m < 4096) {i : Nat} (hi : i ≠ 0) : hit i (md t a b c) (m : Int) = (List.range 12).all fun k => !m.testBit k || (valB a b c).testBit k := by
  unfold hit
  rw [if_neg hi]
  show (Builtin.bitAnd ((modeN t a b c : Nat) : Int) (m : Int) == (m : Int)) = _
  rw [bandN, beqN, show modeN t a b c = 4096 * t + valB a b c from rfl, and_low (val_lt a b c) hm, and_bits hm]
theorem all_of {m : Nat} {l : List Nat} (v : Nat) (h : ((List.range 12).filter fun k => m.testBit k) = l) : ((List.range 12).all fun k => !m.testBit k || v.testBit k) = l.all v.testBit := by
  rw [← h, List.all_filter]
theorem md_hit1 {t m i : Nat} (a b c : B4) {k : Nat} (hi : i ≠ 0) (hm : m < 4096) (h : ((List.range 12).filter fun k => m.testBit k) = [k]) : hit i (md t a b c) (m : Int) = (valB a b c).testBit k := by
  rw [md_hit a b c hm hi, all_of _ h]; simp
theorem md_hit2 {t m i : Nat} (a b c : B4) {k j : Nat} (hi : i ≠ 0) (hm : m < 4096) (h : ((List.range 12).filter fun k => m.testBit k) = [k, j]) : hit i (md t a b c) (m : Int) = ((valB a b c).testBit k && (valB a b c).testBit j) := by
  rw [md_hit a b c hm hi, all_of _ h]; simp
theorem pick0 {t : Nat} (ht : t < 16) (a b c : B4) : pick 0 (md t a b c) [(40960, "l"), (49152, "s"), (32768, "-"), (24576, "b"), (16384, "d"), (8192, "c"), (4096, "p")] = ⟨#[tCh t]⟩ := by
  have key : ∀ (r : Row), pick 0 (md t a b c) r = pick 0 ((4096 * t : Nat) : Int) r := by
    intro r
    induction r with
    | nil => rfl
    | cons p r ih =>
      have e : ∀ x, hit 0 (md t a b c) x = hit 0 ((4096 * t : Nat) : Int) x := fun x => by
        unfold hit
        rw [if_pos rfl, if_pos rfl, md_high ht]
        have : Builtin.bitAnd ((4096 * t : Nat) : Int) 61440 = ((4096 * t : Nat) : Int) := by
          show Builtin.bitAnd ((4096 * t : Nat) : Int) ((61440 : Nat) : Int) = _
          rw [bandN]
          have := and_high (v := 0) ht (by decide)
          rw [Nat.add_zero] at this
          rw [this]
        rw [this]
      show (if hit 0 (md t a b c) p.1 then p.2 else pick 0 (md t a b c) r) = (if hit 0 _ p.1 then p.2 else pick 0 _ r)
      rw [e, ih]
  rw [key]
  have : ∀ t, t < 16 → pick 0 ((4096 * t : Nat) : Int) [(40960, "l"), (49152, "s"), (32768, "-"), (24576, "b"), (16384, "d"), (8192, "c"), (4096, "p")] = ⟨#[tCh t]⟩ := by decide +kernel
  exact this t ht
theorem pickR {m : Int} {i : Nat} {x : Int} (hi : i ≠ 0) {b : Bool} (h : hit i m x = b) : pick i m [(x, "r")] = ⟨#[chR b]⟩ := by
  show (if hit i m x then _ else if i = 0 then _ else _) = _
  rw [h, if_neg hi]
  cases b <;> rfl
theorem pickW {m : Int} {i : Nat} {x : Int} (hi : i ≠ 0) {b : Bool} (h : hit i m x = b) : pick i m [(x, "w")] = ⟨#[chW b]⟩ := by
  show (if hit i m x then _ else if i = 0 then _ else _) = _
  rw [h, if_neg hi]
  cases b <;> rfl
theorem pickX {m : Int} {i : Nat} {x y z : Int} (hi : i ≠ 0) {s e : Bool} (h1 : hit i m x = (e && s)) (h2 : hit i m y = s) (h3 : hit i m z = e) : pick i m [(x, "s"), (y, "S"), (z, "x")] = ⟨#[chX 0 e s]⟩ := by
  show (if hit i m x then _ else if hit i m y then _ else if hit i m z then _ else if i = 0 then _ else _) = _
  rw [h1, h2, h3, if_neg hi]
  cases s <;> cases e <;> rfl
theorem pickT {m : Int} {i : Nat} {x y z : Int} (hi : i ≠ 0) {s e : Bool} (h1 : hit i m x = (e && s)) (h2 : hit i m y = s) (h3 : hit i m z = e) : pick i m [(x, "t"), (y, "T"), (z, "x")] = ⟨#[chX 2 e s]⟩ := by
  show (if hit i m x then _ else if hit i m y then _ else if hit i m z then _ else if i = 0 then _ else _) = _
  rw [h1, h2, h3, if_neg hi]
  cases s <;> cases e <;> rfl
theorem fmode_md {t : Nat} (ht : t < 16) (a b c : B4) : (fmode (md t a b c)).cps.toList = [tCh t, chR a.r, chW a.w, chX 0 a.x a.s, chR b.r, chW b.w, chX 0 b.x b.s, chR c.r, chW c.w, chX 2 c.x c.s] := by
  obtain ⟨v1, v2, v3, v4, v5, v6, v7, v8, v9, v10, v11, v12⟩ := val_bits a b c
  have e : fmodeL (md t a b c) = [⟨#[tCh t]⟩, ⟨#[chR a.r]⟩, ⟨#[chW a.w]⟩, ⟨#[chX 0 a.x a.s]⟩, ⟨#[chR b.r]⟩, ⟨#[chW b.w]⟩, ⟨#[chX 0 b.x b.s]⟩, ⟨#[chR c.r]⟩, ⟨#[chW c.w]⟩, ⟨#[chX 2 c.x c.s]⟩] := by
    have q1 : pick 1 (md t a b c) [(256, "r")] = ⟨#[chR a.r]⟩ := pickR (by decide) ((md_hit1 (m := 256) (k := 8) a b c (by decide) (by decide) (by decide)).trans v1)
    have q2 : pick 2 (md t a b c) [(128, "w")] = ⟨#[chW a.w]⟩ := pickW (by decide) ((md_hit1 (m := 128) (k := 7) a b c (by decide) (by decide) (by decide)).trans v2)
    have q3 : pick 3 (md t a b c) [(2112, "s"), (2048, "S"), (64, "x")] = ⟨#[chX 0 a.x a.s]⟩ := pickX (by decide) ((md_hit2 (m := 2112) (k := 6) (j := 11) a b c (by decide) (by decide) (by decide)).trans (by rw [v3, v4])) ((md_hit1 (m := 2048) (k := 11) a b c (by decide) (by decide) (by decide)).trans v4) ((md_hit1 (m := 64) (k := 6) a b c (by decide) (by decide) (by decide)).trans v3)
    have q4 : pick 4 (md t a b c) [(32, "r")] = ⟨#[chR b.r]⟩ := pickR (by decide) ((md_hit1 (m := 32) (k := 5) a b c (by decide) (by decide) (by decide)).trans v5)
    have q5 : pick 5 (md t a b c) [(16, "w")] = ⟨#[chW b.w]⟩ := pickW (by decide) ((md_hit1 (m := 16) (k := 4) a b c (by decide) (by decide) (by decide)).trans v6)
    have q6 : pick 6 (md t a b c) [(1032, "s"), (1024, "S"), (8, "x")] = ⟨#[chX 0 b.x b.s]⟩ := pickX (by decide) ((md_hit2 (m := 1032) (k := 3) (j := 10) a b c (by decide) (by decide) (by decide)).trans (by rw [v7, v8])) ((md_hit1 (m := 1024) (k := 10) a b c (by decide) (by decide) (by decide)).trans v8) ((md_hit1 (m := 8) (k := 3) a b c (by decide) (by decide) (by decide)).trans v7)
    have q7 : pick 7 (md t a b c) [(4, "r")] = ⟨#[chR c.r]⟩ := pickR (by decide) ((md_hit1 (m := 4) (k := 2) a b c (by decide) (by decide) (by decide)).trans v9)
    have q8 : pick 8 (md t a b c) [(2, "w")] = ⟨#[chW c.w]⟩ := pickW (by decide) ((md_hit1 (m := 2) (k := 1) a b c (by decide) (by decide) (by decide)).trans v10)
    have q9 : pick 9 (md t a b c) [(513, "t"), (512, "T"), (1, "x")] = ⟨#[chX 2 c.x c.s]⟩ := pickT (by decide) ((md_hit2 (m := 513) (k := 0) (j := 9) a b c (by decide) (by decide) (by decide)).trans (by rw [v11, v12])) ((md_hit1 (m := 512) (k := 9) a b c (by decide) (by decide) (by decide)).trans v12) ((md_hit1 (m := 1) (k := 0) a b c (by decide) (by decide) (by decide)).trans v11)
    show [pick 0 (md t a b c) [(40960, "l"), (49152, "s"), (32768, "-"), (24576, "b"), (16384, "d"), (8192, "c"), (4096, "p")], pick 1 (md t a b c) [(256, "r")], pick 2 (md t a b c) [(128, "w")], pick 3 (md t a b c) [(2112, "s"), (2048, "S"), (64, "x")], pick 4 (md t a b c) [(32, "r")], pick 5 (md t a b c) [(16, "w")], pick 6 (md t a b c) [(1032, "s"), (1024, "S"), (8, "x")], pick 7 (md t a b c) [(4, "r")], pick 8 (md t a b c) [(2, "w")], pick 9 (md t a b c) [(513, "t"), (512, "T"), (1, "x")]] = _
    rw [pick0 ht, q1, q2, q3, q4, q5, q6, q7, q8, q9]
  unfold fmode
  rw [join_list, e]
  rfl
/-- the three classes -/
noncomputable def cls3 (a b c : B4) : Nat → B4
  | 0 => a
  | 1 => b
  | _ => c
theorem Hof_md {t : Nat} (ht : t < 16) (a b c : B4) : ∀ k, k < 3 → Hof (md t a b c) k = cls3 a b c k := by
  intro k hk
  unfold Hof signA
  rw [fmode_md ht]
  match k, hk with
  | 0, _ => exact seen_of 0 a
  | 1, _ => exact seen_of 0 b
  | 2, _ => exact seen_of 2 c
end Mine
end
section
open PySem PySem.W PyProof.Rows PySem.Calls PySem.SeqAt
set_option maxRecDepth 100000
set_option maxHeartbeats 1000000
namespace Mine

noncomputable def takenOf (a : Cl) : PV := .list [.str (wordsOf a.who), .str (deedS a.deed), .str (rightsOf a.what)]
theorem sum0 (b : B4) : sumOf b 0 = ((256 * b.r.toNat + 128 * b.w.toNat + 64 * b.x.toNat + 2048 * b.s.toNat : Nat) : Int) := by
  obtain ⟨r, w, x, s⟩ := b
  cases r <;> cases w <;> cases x <;> cases s <;> rfl
theorem sum1 (b : B4) : sumOf b 1 = ((32 * b.r.toNat + 16 * b.w.toNat + 8 * b.x.toNat + 1024 * b.s.toNat : Nat) : Int) := by
  obtain ⟨r, w, x, s⟩ := b
  cases r <;> cases w <;> cases x <;> cases s <;> rfl
theorem sum2 (b : B4) : sumOf b 2 = ((4 * b.r.toNat + 2 * b.w.toNat + 1 * b.x.toNat + 512 * b.s.toNat : Nat) : Int) := by
  obtain ⟨r, w, x, s⟩ := b
  cases r <;> cases w <;> cases x <;> cases s <;> rfl
noncomputable def mdF (t first : Nat) (r : List Cl) : Int := md t (Fb first r 0) (Fb first r 1) (Fb first r 2)
theorem step_md {t : Nat} (ht : t < 16) {first : Nat} {r : List Cl} {a : Cl} (ha : a.Ok) : stepF (mdF t first r) (takenOf a) = mdF t first (a :: r) := by
  have hH : ∀ c, c < 3 → Hof (mdF t first r) c = Fb first r c := fun c hc => by
    unfold mdF
    rw [Hof_md ht _ _ _ c hc]
    match c, hc with
    | 0, _ => rfl
    | 1, _ => rfl
    | 2, _ => rfl
  show Builtin.bitAnd (mdF t first r) 61440 + sumOf (ownOf (Hof (mdF t first r)) _ _ _ 0) 0 + sumOf (ownOf (Hof (mdF t first r)) _ _ _ 1) 1 + sumOf (ownOf (Hof (mdF t first r)) _ _ _ 2) 2 = _
  rw [step_flag ha (show 0 < 3 by decide) _ hH, step_flag ha (show 1 < 3 by decide) _ hH, step_flag ha (show 2 < 3 by decide) _ hH, sum0, sum1, sum2]
  have h1 : Builtin.bitAnd (mdF t first r) 61440 = ((4096 * t : Nat) : Int) := md_high ht _ _ _
  rw [h1]
  show _ = ((modeN t _ _ _ : Nat) : Int)
  unfold modeN valB
  omega
theorem fold_md {t : Nat} (ht : t < 16) {first : Nat} : ∀ (cs r : List Cl), (∀ a ∈ cs, a.Ok) → (cs.map takenOf).foldl stepF (mdF t first r) = mdF t first (cs.reverse ++ r)
  | [], r, _ => rfl
  | a :: cs, r, h => by
    rw [List.map_cons, List.foldl_cons, step_md ht (h a List.mem_cons_self), fold_md ht cs (a :: r) fun x hx => h x (List.mem_cons_of_mem _ hx)]
    simp
theorem flag_bit (first i : Nat) {m : Nat} (hm : m = 2 ^ i) : (Builtin.bitAnd (first : Int) (m : Int) != 0) = first.testBit i := by
  rw [bandN, hm]
  cases h : first.testBit i with
  | false =>
    have : first &&& 2 ^ i = 0 := by
      apply Nat.eq_of_testBit_eq
      intro j
      rw [Nat.testBit_and, Nat.testBit_two_pow, Nat.zero_testBit]
      by_cases hj : i = j
      · subst hj; rw [h]; rfl
      · rw [decide_eq_false hj, Bool.and_false]
    rw [this]; rfl
  | true =>
    have h1 : (first &&& 2 ^ i).testBit i = true := by rw [Nat.testBit_and, Nat.testBit_two_pow, h]; simp
    have : first &&& 2 ^ i ≠ 0 := fun z => by rw [z, Nat.zero_testBit] at h1; cases h1
    rw [bne_iff_ne]; omega
theorem first_val (first : Nat) : valB (Fb first [] 0) (Fb first [] 1) (Fb first [] 2) = first % 4096 := by
  obtain ⟨v1, v2, v3, v4, v5, v6, v7, v8, v9, v10, v11, v12⟩ := val_bits (Fb first [] 0) (Fb first [] 1) (Fb first [] 2)
  have f8 : (Fb first [] 0).r = first.testBit 8 := flag_bit first 8 (m := 256) rfl
  have f7 : (Fb first [] 0).w = first.testBit 7 := flag_bit first 7 (m := 128) rfl
  have f6 : (Fb first [] 0).x = first.testBit 6 := flag_bit first 6 (m := 64) rfl
  have f11 : (Fb first [] 0).s = first.testBit 11 := flag_bit first 11 (m := 2048) rfl
  have f5 : (Fb first [] 1).r = first.testBit 5 := flag_bit first 5 (m := 32) rfl
  have f4 : (Fb first [] 1).w = first.testBit 4 := flag_bit first 4 (m := 16) rfl
  have f3 : (Fb first [] 1).x = first.testBit 3 := flag_bit first 3 (m := 8) rfl
  have f10 : (Fb first [] 1).s = first.testBit 10 := flag_bit first 10 (m := 1024) rfl
  have f2 : (Fb first [] 2).r = first.testBit 2 := flag_bit first 2 (m := 4) rfl
  have f1 : (Fb first [] 2).w = first.testBit 1 := flag_bit first 1 (m := 2) rfl
  have f0 : (Fb first [] 2).x = first.testBit 0 := flag_bit first 0 (m := 1) rfl
  have f9 : (Fb first [] 2).s = first.testBit 9 := flag_bit first 9 (m := 512) rfl
  apply Nat.eq_of_testBit_eq
  intro j
  rw [show (4096 : Nat) = 2 ^ 12 from rfl, Nat.testBit_mod_two_pow]
  by_cases hj : j < 12
  · rw [decide_eq_true hj, Bool.true_and]
    match j, hj with
    | 0, _ => rw [v11, f0]
    | 1, _ => rw [v10, f1]
    | 2, _ => rw [v9, f2]
    | 3, _ => rw [v7, f3]
    | 4, _ => rw [v6, f4]
    | 5, _ => rw [v5, f5]
    | 6, _ => rw [v3, f6]
    | 7, _ => rw [v2, f7]
    | 8, _ => rw [v1, f8]
    | 9, _ => rw [v12, f9]
    | 10, _ => rw [v8, f10]
    | 11, _ => rw [v4, f11]
  · rw [decide_eq_false hj, Bool.false_and]
    exact Nat.testBit_lt_two_pow (Nat.lt_of_lt_of_le (val_lt _ _ _) (Nat.le_trans (show 4096 ≤ 2 ^ 12 by decide) (Nat.pow_le_pow_right (by decide) (by omega))))
theorem first_md (first : Nat) : (first : Int) = mdF (first / 4096) first [] := by
  show _ = ((4096 * (first / 4096) + valB _ _ _ : Nat) : Int)
  rw [first_val]
  omega
theorem due_num {cs : List Cl} (hok : ∀ a ∈ cs, a.Ok) (first : Nat) : dueNumber cs first 3 = mdF (first / 4096) first cs.reverse := by
  show (first : Int) - ((first % 4096 : Nat) : Int) + dueNum cs first 0 + dueNum cs first 1 + dueNum cs first 2 = ((4096 * (first / 4096) + valB _ _ _ : Nat) : Int)
  have e : ∀ c, dueNum cs first c = (worthsOf c).getD 0 0 * (held cs first c 0 : Int) + ((worthsOf c).getD 1 0 * (held cs first c 1 : Int) + ((worthsOf c).getD 2 0 * (held cs first c 2 : Int) + ((worthsOf c).getD 3 0 * (held cs first c 3 : Int) + 0))) := fun c => rfl
  rw [e, e, e]
  simp only [held_eq hok (show 0 < 3 by decide), held_eq hok (show 1 < 3 by decide), held_eq hok (show 2 < 3 by decide)]
  show (first : Int) - ((first % 4096 : Nat) : Int) + ((256 : Int) * _ + ((128 : Int) * _ + ((64 : Int) * _ + ((2048 : Int) * _ + 0)))) + ((32 : Int) * _ + ((16 : Int) * _ + ((8 : Int) * _ + ((1024 : Int) * _ + 0)))) + ((4 : Int) * _ + ((2 : Int) * _ + ((1 : Int) * _ + ((512 : Int) * _ + 0)))) = _
  unfold valB Fb
  dsimp only
  omega
theorem str_ext {x y : Str} (h : x.cps.toList = y.cps.toList) : x = y := by
  obtain ⟨a⟩ := x
  obtain ⟨b⟩ := y
  have : a = b := by
    have h' : a.toList = b.toList := h
    rw [← Array.toArray_toList (xs := a), h', Array.toArray_toList]
  rw [this]
theorem sR (b : Bool) : (signAt [45, 114] b.toNat).cps.toList = [chR b] := by cases b <;> rfl
theorem sW (b : Bool) : (signAt [45, 119] b.toNat).cps.toList = [chW b] := by cases b <;> rfl
theorem sX0 (x s : Bool) : (signAt ((endsOf 0).getD s.toNat []) x.toNat).cps.toList = [chX 0 x s] := by cases x <;> cases s <;> rfl
theorem sX1 (x s : Bool) : (signAt ((endsOf 1).getD s.toNat []) x.toNat).cps.toList = [chX 0 x s] := by cases x <;> cases s <;> rfl
theorem sX2 (x s : Bool) : (signAt ((endsOf 2).getD s.toNat []) x.toNat).cps.toList = [chX 2 x s] := by cases x <;> cases s <;> rfl
theorem app_list (x y : Str) : (x ++ y).cps.toList = x.cps.toList ++ y.cps.toList := by
  show (x.cps ++ y.cps).toList = _
  simp
theorem due_sgn {cs : List Cl} (hok : ∀ a ∈ cs, a.Ok) {first : Nat} (hf : first < 65536) : fmode (mdF (first / 4096) first cs.reverse) = dueSigns cs first 3 := by
  apply str_ext
  have ht : first / 4096 < 16 := by omega
  unfold mdF
  rw [fmode_md ht]
  show _ = (((typeSign first ++ dueSign cs first 0) ++ dueSign cs first 1) ++ dueSign cs first 2).cps.toList
  unfold dueSign
  simp only [app_list, held_eq hok (show 0 < 3 by decide), held_eq hok (show 1 < 3 by decide), held_eq hok (show 2 < 3 by decide), sR, sW, sX0, sX1, sX2]
  rfl
/-- steps forward tell what going backward tells -/
theorem plain_of {ns : List Int} : Plain ns (((clsOf ns).take (cntOf ns)).map takenOf) := by
  have hok : ∀ a ∈ (clsOf ns).take (cntOf ns), a.Ok := fun a ha => clsOf_ok ns a (List.mem_of_mem_take ha)
  have hf : firstOf ns < 65536 := by
    have := Int.fmod_lt_of_pos (33188 + ns.sum) (show (0 : Int) < 65536 by decide)
    unfold firstOf; omega
  refine ⟨?_, ?_, fun q hq => ?_⟩
  · rw [due_num hok, first_md, fold_md (by omega) _ [] hok, List.append_nil]
  · rw [due_num hok, due_sgn hok hf]
  · obtain ⟨a, _, rfl⟩ := List.mem_map.mp hq
    exact ⟨_, _, _, rfl⟩
end Mine
end
section
open PySem PySem.W PyProof.Rows PySem.Calls PySem.SeqAt
set_option maxRecDepth 100000
set_option maxHeartbeats 1000000
namespace Mine
open Builtin Builtin.Str

noncomputable def isN (x : Str) (i : Nat) : Bool := x.cps.toList[i]? == some 10
theorem subAt_nl (x : Str) (i : Nat) : subAt x "\n" i = isN x i := by
  unfold subAt isN
  have h1 : ("\n" : Str).cps = #[10] := rfl
  have h2 : ("\n" : Str).length = 1 := rfl
  rw [h1, h2]
  have h3 : (x.cps.extract i (i + 1)).toList = (x.cps.toList.drop i).take 1 := by simp
  rw [Bool.eq_iff_iff, beq_iff_eq, beq_iff_eq]
  constructor
  · intro h
    have h4 : (x.cps.toList.drop i).take 1 = [10] := by rw [← h3, h]
    have : ((x.cps.toList.drop i).take 1)[0]? = some 10 := by rw [h4]; rfl
    rw [List.getElem?_take_of_lt (by decide), List.getElem?_drop] at this
    simpa using this
  · intro h
    have hi : i < x.cps.toList.length := (List.getElem?_eq_some_iff.mp h).1
    have : (x.cps.extract i (i + 1)).toList = [10] := by
      rw [h3, List.drop_eq_getElem_cons hi, List.take_succ_cons, List.take_zero]
      rw [List.getElem?_eq_getElem hi] at h
      rw [Option.some.inj h]
    apply Array.toList_inj.mp
    rw [this]
theorem occ_run (x : Str) (hi limit : Nat) : ∀ (m lo : Nat) (acc : Array Nat) (free : Nat), free ≤ lo → acc.size + m ≤ limit →
    (forIn (List.range' lo m) (acc, free) (StrLaws.occBody x "\n" hi limit)).run.fst.toList = acc.toList ++ (List.range' lo m).filter fun i => decide (i + 1 ≤ hi) && isN x i
  | 0, lo, acc, free, _, _ => by simp
  | m + 1, lo, acc, free, hf, hl => by
    rw [List.range'_succ, List.forIn_cons, List.filter_cons]
    unfold StrLaws.occBody
    have h2 : ("\n" : Str).length = 1 := rfl
    rw [h2, subAt_nl]
    by_cases hc : lo + 1 ≤ hi ∧ isN x lo = true
    · rw [if_pos ⟨⟨⟨by show acc.size < limit; omega, hf⟩, hc.1⟩, hc.2⟩, if_pos (by rw [hc.2, decide_eq_true hc.1]; rfl)]
      have := occ_run x hi limit m (lo + 1) (acc.push lo) (lo + 1) (Nat.le_refl _) (by rw [Array.size_push]; omega)
      refine this.trans ?_
      rw [Array.toList_push]; simp
    · rw [if_neg (fun z => hc ⟨z.1.2, z.2⟩), if_neg (by
        intro z
        rw [Bool.and_eq_true, decide_eq_true_eq] at z
        exact hc z)]
      exact occ_run x hi limit m (lo + 1) acc free (by omega) (by omega)
/-- the line feeds ahead of q -/
noncomputable def nls (x : Str) (q : Nat) : List Nat := (List.range q).filter (isN x)
theorem filt_nls (x : Str) (q : Nat) : ((List.range' 0 (q + 1)).filter fun i => decide (i + 1 ≤ q) && isN x i) = nls x q := by
  rw [← List.range_eq_range', List.range_succ, List.filter_append]
  have h1 : ([q].filter fun i => decide (i + 1 ≤ q) && isN x i) = [] := by
    rw [List.filter_cons, decide_eq_false (show ¬ (q + 1 ≤ q) by omega), Bool.false_and, if_neg Bool.false_ne_true]; rfl
  rw [h1, List.append_nil]
  unfold nls
  refine List.filter_congr fun i hi => ?_
  have := List.mem_range.mp hi
  rw [decide_eq_true (by omega), Bool.true_and]
theorem occ_nls (x : Str) {q : Nat} (hq : q ≤ x.length) : occurrences x "\n" 0 (min q x.length) (x.length + 1) = nls x q := by
  rw [Nat.min_eq_left hq, StrLaws.occ_eq, Nat.sub_zero, occ_run x q (x.length + 1) (q + 1) 0 #[] 0 (Nat.le_refl _) (by simp; omega)]
  simp only [List.nil_append]
  exact filt_nls x q
theorem last_run (x : Str) (hi : Nat) : ∀ (l : List Nat) (st : Option Nat), (forIn l st (fun i r => if i + ("\n" : Str).length ≤ hi ∧ subAt x "\n" i = true then (pure (ForInStep.yield (some i)) : Id _) else pure (ForInStep.yield r))).run = ((l.filter fun i => decide (i + 1 ≤ hi) && isN x i).getLast?).or st
  | [], st => by simp
  | a :: l, st => by
    rw [List.forIn_cons, List.filter_cons]
    have h2 : ("\n" : Str).length = 1 := rfl
    rw [h2, subAt_nl]
    by_cases hc : a + 1 ≤ hi ∧ isN x a = true
    · rw [if_pos hc, if_pos (by rw [hc.2, decide_eq_true hc.1]; rfl)]
      refine (last_run x hi l (some a)).trans ?_
      rw [List.getLast?_cons]
      cases (l.filter fun i => decide (i + 1 ≤ hi) && isN x i).getLast? <;> simp
    · rw [if_neg hc, if_neg (by
        intro z
        rw [Bool.and_eq_true, decide_eq_true_eq] at z
        exact hc z)]
      exact last_run x hi l st
theorem last_nls (x : Str) {q : Nat} (hq : q ≤ x.length) : lastOccurrence x "\n" 0 (min q x.length) = (nls x q).getLast? := by
  rw [Nat.min_eq_left hq]
  unfold lastOccurrence
  have := last_run x q (List.range' 0 (q + 1)) none
  rw [filt_nls] at this
  simp only [Option.or_none] at this
  rw [← this]
  simp
end Mine
end
section
open PySem PySem.W PyProof.Rows PySem.Calls PySem.SeqAt
set_option maxRecDepth 100000
set_option maxHeartbeats 1000000
namespace Mine
open Builtin Builtin.Str

noncomputable def offs (x : Str) (q : Nat) : Nat := match (nls x q).getLast? with
  | none => 0
  | some k => k + 1
theorem nls_succ (x : Str) (q : Nat) : nls x (q + 1) = if isN x q = true then nls x q ++ [q] else nls x q := by
  unfold nls
  rw [List.range_succ, List.filter_append, List.filter_cons]
  split <;> simp
theorem offs_le (x : Str) : ∀ q, offs x q ≤ q
  | 0 => by simp [offs, nls]
  | q + 1 => by
    unfold offs
    rw [nls_succ]
    split
    · rename_i h
      split at h
      · omega
      · omega
    · rename_i k h
      split at h
      · rw [List.getLast?_append] at h
        simp at h
        omega
      · have := offs_le x q
        unfold offs at this
        rw [h] at this
        dsimp only at this
        omega
theorem adv_take (x : Str) : ∀ q, q ≤ x.length → adv (1, 1) (x.cps.toList.take q) = (1 + (nls x q).length, q + 1 - offs x q)
  | 0, _ => by simp [adv, nls, offs]
  | q + 1, h => by
    have ih := adv_take x q (by omega)
    have hq : q < x.cps.toList.length := h
    have ho := offs_le x q
    rw [List.take_add_one, List.getElem?_eq_getElem hq]
    unfold adv at ih ⊢
    rw [List.foldl_append, ih]
    show adv1 _ _ = _
    unfold adv1
    have hN : isN x q = decide (x.cps.toList[q] = 10) := by
      unfold isN
      rw [List.getElem?_eq_getElem hq]
      rw [Bool.eq_iff_iff, beq_iff_eq, decide_eq_true_eq]
      simp
    by_cases h10 : x.cps.toList[q] = 10
    · rw [if_pos h10]
      have e : nls x (q + 1) = nls x q ++ [q] := by rw [nls_succ, if_pos (by rw [hN, decide_eq_true h10])]
      have e2 : offs x (q + 1) = q + 1 := by
        unfold offs
        rw [e, List.getLast?_append]
        simp
      rw [e, e2, List.length_append]
      simp
      omega
    · rw [if_neg h10]
      have e : nls x (q + 1) = nls x q := by rw [nls_succ, if_neg (by rw [hN, decide_eq_false h10]; decide)]
      have e2 : offs x (q + 1) = offs x q := by unfold offs; rw [e]
      rw [e, e2]
      simp
      omega
theorem coord_of {x : Str} {q l c : Nat} (hq : q < x.length) (hx : x.length < 300) (h : adv (1, 1) (x.cps.toList.take q) = (l, c)) : CoordAt x q l c := by
  rw [adv_take x q (by omega)] at h
  have h1 : 1 + (nls x q).length = l := congrArg Prod.fst h
  have h2 : q + 1 - offs x q = c := congrArg Prod.snd h
  have ho := offs_le x q
  have hle : (nls x q).length ≤ q := by
    unfold nls
    exact Nat.le_trans (List.length_filter_le _ _) (by rw [List.length_range]; exact Nat.le_refl _)
  refine ⟨hq, hx, by rw [occ_nls x (by omega)]; omega, by omega, by omega, fun e => ?_, fun e => ?_⟩
  · have : nls x q = [] := List.eq_nil_of_length_eq_zero (by omega)
    have h0 : offs x q = 0 := by unfold offs; rw [this]; rfl
    omega
  · rw [last_nls x (by omega)]
    have hne : nls x q ≠ [] := fun z => by rw [z] at h1; simp at h1; omega
    refine ⟨(nls x q).getLast hne, List.getLast?_eq_some_getLast hne, ?_⟩
    have h0 : offs x q = (nls x q).getLast hne + 1 := by unfold offs; rw [List.getLast?_eq_some_getLast hne]
    omega
theorem occ_one {x : Str} {p k : Nat} (hp : p ≤ k) (hk : isN x k = true) (hno : ∀ j, p ≤ j → j < k → isN x j = false) : ∃ rest, occurrences x "\n" p x.length 1 = k :: rest := by
  have hlen : k < x.length := by
    unfold isN at hk
    rw [beq_iff_eq] at hk
    exact (List.getElem?_eq_some_iff.mp hk).1
  rw [StrLaws.occ_eq]
  have hat : StrLaws.At x "\n" x.length k := ⟨hlen, by rw [subAt_nl]; exact hk⟩
  rcases StrLaws.occ_first x "\n" x.length 1 (Nat.le_refl _) (List.range' p (x.length + 1 - p)) p (fun i hi => by
    have := List.mem_range'.mp hi; omega) with ⟨_, hn⟩ | ⟨pre, a, post, e, h0, ha, hn⟩
  · exact absurd hat (hn k (List.mem_range'.mpr ⟨k - p, by omega, by omega⟩))
  · have hak : a = k := by
      have ham : a ∈ List.range' p (x.length + 1 - p) := by rw [e]; simp
      obtain ⟨i, hi, hai⟩ := List.mem_range'.mp ham
      have haN : isN x a = true := by rw [← subAt_nl]; exact ha.2
      rcases Nat.lt_trichotomy a k with h | h | h
      · rw [hno a (by omega) h] at haN; cases haN
      · exact h
      · have hkm : k ∈ List.range' p (x.length + 1 - p) := List.mem_range'.mpr ⟨k - p, by omega, by omega⟩
        rw [e] at hkm
        rcases List.mem_append.mp hkm with q | q
        · exact absurd hat (hn k q)
        · rcases List.mem_cons.mp q with q | q
          · exact q.symm
          · exfalso
            have hs : (List.range' p (x.length + 1 - p)).Pairwise (· < ·) := List.pairwise_lt_range' 1
            rw [e, List.pairwise_append] at hs
            have := (List.pairwise_cons.mp hs.2.1).1 k q
            omega
    rw [hak] at h0
    generalize (forIn (List.range' p (x.length + 1 - p)) ((#[] : Array Nat), p) (StrLaws.occBody x "\n" x.length 1)).run.fst = arr at h0
    have h1 : arr.toList[0]? = some k := by simpa using h0
    cases hL : arr.toList with
    | nil => rw [hL] at h1; cases h1
    | cons b t => rw [hL] at h1; simp at h1; exact ⟨t, by rw [h1]⟩
end Mine
end
section
open PySem PySem.W PyProof.Rows PySem.Calls PySem.SeqAt
set_option maxRecDepth 100000
set_option maxHeartbeats 1000000
namespace Mine
open Builtin Builtin.Str

theorem drop_at {α : Type} (P R : List α) (i : Nat) : (P ++ R).drop (P.length + i) = R.drop i := by
  rw [List.drop_append, List.drop_of_length_le (by omega), List.nil_append]
  congr 1; omega
theorem get_at {α : Type} (P R : List α) (i : Nat) : (P ++ R)[P.length + i]? = R[i]? := by
  rw [List.getElem?_append_right (by omega)]
  congr 1; omega
theorem cps_at {x : Str} {i : Nat} : x.cps[i]? = x.cps.toList[i]? := by simp
theorem skipTo_at {S : Nat → Bool} {x : Str} {P M T : List Nat} (h : x.cps.toList = P ++ (M ++ T)) (hM : ∀ c ∈ M, S c = true) (hT : ∀ c r, T = c :: r → S c = false) : skipTo S x P.length = P.length + M.length := by
  unfold skipTo
  have := drop_at P (M ++ T) 0
  rw [Nat.add_zero, List.drop_zero] at this
  rw [h, this]
  congr 1
  have hT' : T.takeWhile S = [] := by
    cases T with
    | nil => rfl
    | cons c r => rw [List.takeWhile_cons, hT c r rfl]; rfl
  have : (M ++ T).takeWhile S = M := by
    rw [List.takeWhile_append_of_pos hM, hT', List.append_nil]
  rw [this]
theorem cut_at {x : Str} {P M T : List Nat} (h : x.cps.toList = P ++ (M ++ T)) {b : Nat} (hb : b = P.length + M.length) : cut x P.length b = ⟨M.toArray⟩ := by
  subst hb
  have hl : x.length = P.length + (M.length + T.length) := by
    rw [str_len, h, List.length_append, List.length_append]
  rw [cut_nat (by omega) (by omega), h]
  have := drop_at P (M ++ T) 0
  rw [Nat.add_zero, List.drop_zero] at this
  rw [this, Nat.add_sub_cancel_left, List.take_left']
  rfl

noncomputable def gskip (G : List Nat) (i : Nat) : Nat := i + ((G.drop i).takeWhile isWs).length
noncomputable def gstep (G : List Nat) (j : Nat) : Option Nat :=
  match G[j]? with
  | none => some j
  | some c => if c = 35 then (match (G.drop (j + 1)).findIdx? (· == 10) with
      | some m => if ((G.drop (j + 1)).take m).any isIll then none else some (j + 1 + m)
      | none => none) else some j
noncomputable def grun (G : List Nat) : Nat → Nat → Option Nat
  | 0, i => match gstep G (gskip G i) with
    | some j => if j = i then some i else none
    | none => none
  | k + 1, i => match gstep G (gskip G i) with
    | some j => if j = i then some i else grun G k j
    | none => none
/-- what stands behind a gap -/
noncomputable def Head (T : List Nat) : Prop := ∀ c r, T = c :: r → isWs c = false ∧ c ≠ 35
theorem gskip_le (G : List Nat) {i : Nat} (hi : i ≤ G.length) : gskip G i ≤ G.length := by
  unfold gskip
  have : ((G.drop i).takeWhile isWs).length ≤ (G.drop i).length := (List.takeWhile_sublist isWs).length_le
  rw [List.length_drop] at this
  omega
theorem skip_g {x : Str} {P G T : List Nat} (h : x.cps.toList = P ++ (G ++ T)) (hT : Head T) {i : Nat} (hi : i ≤ G.length) : skipTo isWs x (P.length + i) = P.length + gskip G i := by
  unfold skipTo gskip
  rw [h, drop_at, List.drop_append_of_le_length hi, List.takeWhile_append]
  have hT' : T.takeWhile isWs = [] := by
    cases T with
    | nil => rfl
    | cons c r => rw [List.takeWhile_cons, (hT c r rfl).1]; rfl
  rw [hT']
  split
  · rename_i e
    rw [List.append_nil]; omega
  · omega
theorem cut_mid {x : Str} {P R : List Nat} (h : x.cps.toList = P ++ R) {i m : Nat} (hm : i + m ≤ R.length) : cut x ((P.length + i : Nat) : Int) ((P.length + (i + m) : Nat) : Int) = ⟨((R.drop i).take m).toArray⟩ := by
  have hl : x.length = P.length + R.length := by rw [str_len, h, List.length_append]
  rw [cut_nat (by omega) (by omega), h, drop_at]
  have : P.length + (i + m) - (P.length + i) = m := by omega
  rw [this]
theorem findIdx_spec {l : List Nat} {m : Nat} (h : l.findIdx? (· == 10) = some m) : l[m]? = some 10 ∧ (∀ j, j < m → l[j]? ≠ some 10) ∧ m < l.length := by
  obtain ⟨hm, h1, h2⟩ := List.findIdx?_eq_some_iff_getElem.mp h
  refine ⟨by rw [List.getElem?_eq_getElem hm, eq_of_beq h1], fun j hj z => ?_, hm⟩
  have := h2 j hj
  rw [List.getElem?_eq_getElem (by omega)] at z
  rw [Option.some.inj z] at this
  simp at this
theorem occ_g {x : Str} {P R : List Nat} (h : x.cps.toList = P ++ R) {j m : Nat} (hf : (R.drop (j + 1)).findIdx? (· == 10) = some m) : ∃ rest, occurrences x "\n" (P.length + j + 1) x.length 1 = (P.length + (j + 1 + m)) :: rest := by
  obtain ⟨h1, h2, h3⟩ := findIdx_spec hf
  refine occ_one (by omega) ?_ fun i hi1 hi2 => ?_
  · unfold isN
    rw [h, get_at, ← List.getElem?_drop, h1]; rfl
  · unfold isN
    obtain ⟨d, rfl⟩ : ∃ d, i = P.length + (j + 1 + d) := ⟨i - (P.length + (j + 1)), by omega⟩
    rw [h, get_at, ← List.getElem?_drop]
    have := h2 d (by omega)
    cases hq : (R.drop (j + 1))[d]? with
    | none => rfl
    | some c =>
      rw [hq] at this
      show (some c == some 10) = false
      rw [beq_eq_false_iff_ne]
      exact this
theorem find_app {l T : List Nat} {m : Nat} (h : l.findIdx? (· == 10) = some m) : (l ++ T).findIdx? (· == 10) = some m := by
  rw [List.findIdx?_append, h]; rfl
theorem step_g {x : Str} {P G T : List Nat} (h : x.cps.toList = P ++ (G ++ T)) (hT : Head T) {j q : Nat} (hj : j ≤ G.length) (hs : gstep G j = some q) : CStep x (P.length + j) (P.length + q) ∧ q ≤ G.length := by
  unfold gstep at hs
  cases hg : G[j]? with
  | none =>
    rw [hg] at hs
    cases hs
    have hjl : j = G.length := by have := List.getElem?_eq_none_iff.mp hg; omega
    refine ⟨?_, hj⟩
    cases hTT : T with
    | nil =>
      refine .past ?_
      rw [str_len, h, hTT, List.append_nil, List.length_append]; omega
    | cons c r =>
      refine .other (c := c) ?_ (hT c r hTT).2
      rw [cps_at, h, get_at, hjl, hTT]
      simp
  | some c =>
    rw [hg] at hs
    dsimp only at hs
    have hjl : j < G.length := (List.getElem?_eq_some_iff.mp hg).1
    have hx : x.cps[P.length + j]? = some c := by
      rw [cps_at, h, get_at, List.getElem?_append_left hjl]; exact hg
    by_cases hc : c = 35
    · rw [if_pos hc] at hs
      cases hf : (G.drop (j + 1)).findIdx? (· == 10) with
      | none => rw [hf] at hs; cases hs
      | some m =>
        rw [hf] at hs
        dsimp only at hs
        have hml := (findIdx_spec hf).2.2
        rw [List.length_drop] at hml
        have hdr : (G ++ T).drop (j + 1) = G.drop (j + 1) ++ T := List.drop_append_of_le_length (by omega)
        split at hs
        · cases hs
        · rename_i hill
          cases hs
          obtain ⟨rest, ho⟩ := occ_g h (j := j) (m := m) (by rw [hdr]; exact find_app hf)
          refine ⟨.hash (hc ▸ hx) ho ?_, by omega⟩
          have e1 : P.length + j + 1 = P.length + (j + 1) := by omega
          rw [e1, cut_mid h (i := j + 1) (m := m) (by rw [List.length_append]; omega), hdr, List.take_append_of_le_length (by rw [List.length_drop]; omega)]
          simpa using hill
    · rw [if_neg hc] at hs
      cases hs
      exact ⟨.other hx hc, hj⟩
theorem ws_g {x : Str} {P G T : List Nat} (h : x.cps.toList = P ++ (G ++ T)) (hT : Head T) (hx : x.length < 900) : ∀ (k i r : Nat), i ≤ G.length → grun G k i = some r → Ws x k (P.length + i) (P.length + r) ∧ r ≤ G.length
  | k, i, r, hi, hr => by
    have hp : P.length + i < 1000 := by
      rw [str_len, h, List.length_append, List.length_append] at hx; omega
    have hsk := skip_g h hT hi
    have hle := gskip_le G hi
    cases hst : gstep G (gskip G i) with
    | none => cases k <;> (unfold grun at hr; rw [hst] at hr; cases hr)
    | some j =>
      obtain ⟨hc, hjl⟩ := step_g h hT hle hst
      rw [← hsk] at hc
      by_cases hji : j = i
      · have : r = i := by cases k <;> (unfold grun at hr; rw [hst] at hr; simp only [hji, if_true] at hr; exact (Option.some.inj hr).symm)
        subst this
        rw [hji] at hc
        exact ⟨.stop hp hc, hi⟩
      · cases k with
        | zero => unfold grun at hr; rw [hst] at hr; simp only [hji, if_false] at hr; cases hr
        | succ k =>
          unfold grun at hr
          rw [hst] at hr
          simp only [hji, if_false] at hr
          obtain ⟨w1, w2⟩ := ws_g h hT hx k j r hjl hr
          exact ⟨.next hp hc (by omega) w1, w2⟩
end Mine
end
section
open PySem PySem.W PyProof.Rows PySem.Calls PySem.SeqAt
set_option maxRecDepth 100000
set_option maxHeartbeats 1000000
namespace Mine
open Builtin Builtin.Str

noncomputable def gapL (k : Nat) : List Nat := (gapS k).cps.toList
noncomputable def writtenL (a : Cl) : List Nat := (wordsOf a.who).cps.toList ++ ([deedC a.deed] ++ ((rightsOf a.what).cps.toList ++ gapL a.gap))
theorem written_list (a : Cl) : (writtenOf a).cps.toList = writtenL a := by
  unfold writtenOf writtenL
  rw [app_list, app_list, app_list]
  show _ ++ [deedC a.deed] ++ _ ++ _ = _
  simp [gapL]
theorem fact_w : ∀ who, who < 8 → 1 ≤ who → (wordsOf who).cps.toList.all (fun c => isWho c && c != 10 && !isWs c && c != 35) = true ∧ (wordsOf who).cps.toList ≠ [] := by decide +kernel
theorem fact_d : ∀ d, d < 3 → isWho (deedC d) = false ∧ deedC d ≠ 10 := by decide +kernel
theorem fact_r : ∀ k, k < 35 → (rightsOf k).cps.toList.all (fun c => isWhat c && c != 10) = true := by decide +kernel
theorem fact_g : ∀ k, k < 16 → ((gapL k).headD 0 |> isWhat) = false ∧ gapL k ≠ [] ∧ blanks.any (· == (⟨#[(gapL k).headD 0]⟩ : Str)) = (k != 14) := by decide +kernel
theorem fact_run : ∀ k, k < 16 → k ≠ 14 → k ≠ 15 → grun (gapL k) 4 0 = some (gapL k).length := by decide +kernel
theorem adv_plain : ∀ (L : List Nat) (p : Nat × Nat), (∀ c ∈ L, c ≠ 10) → adv p L = (p.1, p.2 + L.length)
  | [], p, _ => rfl
  | c :: r, p, h => by
    have hc := h c List.mem_cons_self
    show adv (adv1 p c) r = _
    rw [adv_plain r _ fun x hx => h x (List.mem_cons_of_mem _ hx)]
    unfold adv1
    rw [if_neg hc, List.length_cons]
    show (p.1, p.2 + 1 + r.length) = _
    congr 1; omega
theorem adv_app (p : Nat × Nat) (L M : List Nat) : adv p (L ++ M) = adv (adv p L) M := List.foldl_append
theorem err_spot (m : Str) (l c : Nat) : errText m l c = m ++ spotOf l c := by
  apply str_ext
  unfold errText coordOf glueL spotOf
  simp only [List.foldl_cons, List.foldl_nil, app_list]
  have e : (" (at line " : Str).cps.toList = (" (at " : Str).cps.toList ++ ("line " : Str).cps.toList := rfl
  have e2 : Str.empty.cps.toList = [] := rfl
  rw [e, e2]
  simp [List.append_assoc]
theorem msg_is : msgBad = ("Found invalid character '\\x7f'" : Str) := by
  apply str_ext
  unfold msgBad
  rw [app_list]
  decide +kernel
theorem of_list (x : Str) : (⟨x.cps.toList.toArray⟩ : Str) = x := by
  apply str_ext; simp
theorem head_next : ∀ (cs : List Cl), (∀ a ∈ cs, a.Ok) → Head ((cs.map writtenL).flatten)
  | [], _, c, r, h => by simp at h
  | a :: cs, hok, c, r, h => by
    have ha := hok a List.mem_cons_self
    obtain ⟨f1, f2⟩ := fact_w a.who (by have := ha.who7; omega) ha.who1
    rw [List.map_cons, List.flatten_cons] at h
    unfold writtenL at h
    cases hw : (wordsOf a.who).cps.toList with
    | nil => exact absurd hw f2
    | cons y ys =>
      rw [hw] at h f1
      simp only [List.cons_append, List.cons.injEq] at h
      rw [List.all_cons, Bool.and_eq_true] at f1
      have f := f1.1
      rw [h.1] at f
      simp only [Bool.and_eq_true, Bool.not_eq_true', bne_iff_ne] at f
      exact ⟨f.1.2, f.2⟩
end Mine
end
section
open PySem PySem.W PyProof.Rows PySem.Calls PySem.SeqAt
set_option maxRecDepth 100000
set_option maxHeartbeats 1000000
namespace Mine
open Builtin Builtin.Str

/-- the reading of the clauses that are left -/
theorem rd_main {x : Str} (hx : x.length < 300) : ∀ (cs : List Cl) (P : List Nat) (l : List PV) (ln c k : Nat), (∀ a ∈ cs, a.Ok) → x.cps.toList = P ++ (cs.map writtenL).flatten → adv (1, 1) P = (ln, c) → l.length + cs.length < 100 →
    k ≤ (faultGo ln c k cs).1 ∧ ∃ b, Rd x cs.length P.length l (l ++ (cs.take ((faultGo ln c k cs).1 - k)).map takenOf) (faultGo ln c k cs).2 b
  | [], P, l, ln, c, k, _, hD, _, _ => by
    refine ⟨Nat.le_refl _, false, ?_⟩
    show Rd x 0 P.length l (l ++ (([] : List Cl).take (k - k)).map takenOf) "" false
    rw [List.take_nil, List.map_nil, List.append_nil]
    have : x.length = P.length := by rw [str_len, hD]; simp
    exact .done (by omega) (by omega)
  | a :: r, P, l, ln, c, k, hok, hD, hadv, hl => by
    have ha := hok a List.mem_cons_self
    obtain ⟨fw1, fw2⟩ := fact_w a.who (by have := ha.who7; omega) ha.who1
    obtain ⟨fd1, fd2⟩ := fact_d a.deed ha.deed
    have fr := fact_r a.what ha.what
    obtain ⟨fg1, fg2, fg3⟩ := fact_g a.gap ha.gap
    have hT := head_next r fun y hy => hok y (List.mem_cons_of_mem _ hy)
    rw [List.map_cons, List.flatten_cons] at hD
    generalize hTT : (r.map writtenL).flatten = T at hD hT
    have hwlen : (writtenOf a).length = (writtenL a).length := by rw [str_len, written_list]
    unfold writtenL at hD hwlen
    generalize hW : (wordsOf a.who).cps.toList = W at hD fw1 fw2 hwlen
    generalize hR : (rightsOf a.what).cps.toList = R at hD fr hwlen
    have hGl : (gapS a.gap).length = (gapL a.gap).length := rfl
    generalize hG : gapL a.gap = G at hD fg1 fg2 fg3 hGl hwlen
    obtain ⟨g0, G', rfl⟩ : ∃ g0 G', G = g0 :: G' := by
      cases G with
      | nil => exact absurd rfl fg2
      | cons g0 G' => exact ⟨g0, G', rfl⟩
    rw [List.all_eq_true] at fw1 fr
    have hwWho : ∀ y ∈ W, isWho y = true := fun y hy => by have := fw1 y hy; simp only [Bool.and_eq_true] at this; exact this.1.1.1
    have hw10 : ∀ y ∈ W, y ≠ 10 := fun y hy => by have := fw1 y hy; simp only [Bool.and_eq_true, bne_iff_ne] at this; exact this.1.1.2
    have hrWhat : ∀ y ∈ R, isWhat y = true := fun y hy => by have := fr y hy; simp only [Bool.and_eq_true] at this; exact this.1
    have hr10 : ∀ y ∈ R, y ≠ 10 := fun y hy => by have := fr y hy; simp only [Bool.and_eq_true, bne_iff_ne] at this; exact this.2
    have d1 : x.cps.toList = P ++ (W ++ (deedC a.deed :: (R ++ (g0 :: G' ++ T)))) := by rw [hD]; simp
    have d2 : x.cps.toList = (P ++ W) ++ ([deedC a.deed] ++ (R ++ (g0 :: G' ++ T))) := by rw [hD]; simp
    have d3 : x.cps.toList = (P ++ W ++ [deedC a.deed]) ++ (R ++ (g0 :: (G' ++ T))) := by rw [hD]; simp
    have d4 : x.cps.toList = (P ++ W ++ [deedC a.deed] ++ R) ++ ([g0] ++ (G' ++ T)) := by rw [hD]; simp
    have d5 : x.cps.toList = (P ++ W ++ [deedC a.deed] ++ R) ++ (g0 :: G' ++ T) := by rw [hD]; simp
    have hp : P.length < x.length := by rw [str_len, d1]; simp; omega
    have em : P.length + W.length = skipTo isWho x P.length := (skipTo_at d1 hwWho fun y ys e => by cases e; exact fd1).symm
    have el2 : (P ++ W).length = P.length + W.length := List.length_append
    have el3 : (P ++ W ++ [deedC a.deed]).length = P.length + W.length + 1 := by simp; omega
    have el4 : (P ++ W ++ [deedC a.deed] ++ R).length = P.length + W.length + 1 + R.length := by simp; omega
    have es : P.length + W.length + 1 + R.length = skipTo isWhat x (P.length + W.length + 1) := by
      rw [← el3]
      exact (skipTo_at d3 hrWhat fun y ys e => by cases e; exact fg1).symm
    have c1 : cut x (P.length : Nat) ((P.length + W.length : Nat) : Int) = wordsOf a.who := by rw [cut_at d1 rfl, ← hW, of_list]
    have c2 : cut x ((P.length + W.length : Nat) : Int) ((P.length + W.length + 1 : Nat) : Int) = deedS a.deed := by rw [← el2]; exact cut_at d2 rfl
    have c3 : cut x ((P.length + W.length + 1 : Nat) : Int) ((P.length + W.length + 1 + R.length : Nat) : Int) = rightsOf a.what := by
      have := cut_at d3 (b := P.length + W.length + 1 + R.length) (by rw [el3])
      rw [el3] at this
      rw [this, ← hR, of_list]
    have c4 : cut x ((P.length + W.length + 1 + R.length : Nat) : Int) ((P.length + W.length + 1 + R.length + 1 : Nat) : Int) = ⟨#[g0]⟩ := by
      have := cut_at d4 (b := P.length + W.length + 1 + R.length + 1) (by rw [el4]; rfl)
      rw [el4] at this
      exact this
    have htk : takenPV x P.length (P.length + W.length) (P.length + W.length + 1 + R.length) = takenOf a := by
      unfold takenPV takenOf
      rw [c1, c2, c3]
    have hb : blanks.any (· == cut x ((P.length + W.length + 1 + R.length : Nat) : Int) ((P.length + W.length + 1 + R.length + 1 : Nat) : Int)) = (a.gap != 14) := by rw [c4]; exact fg3
    have hc' : adv (1, 1) (P ++ W ++ [deedC a.deed] ++ R) = (ln, c + ((writtenOf a).length - (gapS a.gap).length)) := by
      rw [adv_app, adv_app, adv_app, hadv, adv_plain W _ hw10, adv_plain [deedC a.deed] _ (by simpa using fd2), adv_plain R _ hr10, hwlen, hGl]
      simp only [List.length_append, List.length_cons, List.length_nil]
      congr 1; omega
    generalize hcc : c + ((writtenOf a).length - (gapS a.gap).length) = c' at hc'
    have hll : l.length < 100 := by simp at hl; omega
    have hfg : faultGo ln c k (a :: r) = if a.gap = 14 then (k, ("Expected a blank" : Str) ++ spotOf ln c') else if a.gap = 15 then (k + 1, ("Found invalid character '\\x7f'" : Str) ++ spotOf ln (c' + 2 : Nat)) else faultGo (adv (ln, c') (gapL a.gap)).1 (adv (ln, c') (gapL a.gap)).2 (k + 1) r := by rw [← hcc]; rfl
    by_cases h14 : a.gap = 14
    · rw [hfg, if_pos h14]
      refine ⟨Nat.le_refl _, true, ?_⟩
      rw [Nat.sub_self, List.take_zero, List.map_nil, List.append_nil]
      show Rd x _ P.length l l (("Expected a blank" : Str) ++ spotOf ln c') true
      rw [← err_spot]
      refine .blank hp em es (by rw [hb, h14]; rfl) ?_ hll
      refine coord_of (by rw [← el4, str_len, d5]; simp) hx ?_
      rw [d5, ← el4, List.take_left']
      · exact hc'
      · rfl
    · rw [hfg, if_neg h14]
      have hb1 : blanks.any (· == cut x ((P.length + W.length + 1 + R.length : Nat) : Int) ((P.length + W.length + 1 + R.length + 1 : Nat) : Int)) = true := by rw [hb]; simpa using h14
      by_cases h15 : a.gap = 15
      · rw [if_pos h15]
        refine ⟨by omega, true, ?_⟩
        have e1 : k + 1 - k = 1 := by omega
        show Rd x (r.length + 1) P.length l (l ++ ((a :: r).take (k + 1 - k)).map takenOf) (("Found invalid character '\\x7f'" : Str) ++ spotOf ln (c' + 2 : Nat)) true
        rw [e1, List.take_succ_cons, List.take_zero, List.map_cons, List.map_nil, ← htk, ← msg_is, ← err_spot]
        have hG15 : g0 :: G' = [32, 35, 127, 10] := by rw [← hG, h15]; rfl
        rw [hG15] at d5
        generalize hPP : P ++ W ++ [deedC a.deed] ++ R = PP at d5 el4 hc'
        rw [← el4] at es hb1 ⊢
        refine .bad (kw := 0) hp em es hb1 ?_ hll
        have hl5 : x.length = PP.length + (4 + T.length) := by rw [str_len, d5]; simp; omega
        have hsk : skipTo isWs x PP.length = PP.length + 1 := skipTo_at (M := [32]) (T := [35, 127, 10] ++ T) (by rw [d5]; rfl) (by decide) (fun y ys e => by cases e; rfl)
        have hsk2 : skipTo (fun c => !isIll c) x (PP.length + 1 + 1) = PP.length + 1 + 1 := by
          have := skipTo_at (S := fun c => !isIll c) (P := PP ++ [32, 35]) (M := []) (T := [127, 10] ++ T) (x := x) (by rw [d5]; simp) (by simp) (fun y ys e => by cases e; rfl)
          simpa using this
        refine .raise (by omega) ?_
        rw [hsk]
        refine ⟨?_, ?_, ?_, ?_⟩
        · rw [cps_at, d5, get_at]; rfl
        · obtain ⟨rest, ho⟩ := occ_g d5 (j := 1) (m := 1) rfl
          refine ⟨PP.length + (1 + 1 + 1), rest, ho, ?_⟩
          have := cut_mid d5 (i := 2) (m := 1) (by simp)
          have e2 : PP.length + 1 + 1 = PP.length + 2 := by omega
          rw [e2]
          show (cut x ((PP.length + 2 : Nat) : Int) ((PP.length + (2 + 1) : Nat) : Int)).cps.toList.any isIll = true
          rw [this]; rfl
        · rw [hsk2, cps_at, d5]
          have e2 : PP.length + 1 + 1 = PP.length + 2 := by omega
          rw [e2, get_at]; rfl
        · rw [hsk2]
          refine coord_of (by omega) hx ?_
          have e3 : x.cps.toList.take (PP.length + 1 + 1) = PP ++ [32, 35] := by
            rw [d5, List.take_append]
            have e4 : PP.length + 1 + 1 - PP.length = 2 := by omega
            rw [List.take_of_length_le (by omega), e4]; rfl
          rw [e3, adv_app, hc']; rfl
      · rw [if_neg h15]
        have hrun := fact_run a.gap ha.gap h14 h15
        rw [hG] at hrun
        obtain ⟨hws, _⟩ := ws_g d5 hT (by omega) 4 0 _ (Nat.zero_le _) hrun
        rw [Nat.add_zero, el4] at hws
        have d6 : x.cps.toList = (P ++ W ++ [deedC a.deed] ++ R ++ (g0 :: G')) ++ (r.map writtenL).flatten := by rw [hTT, d5]; simp
        have hadv2 : adv (1, 1) (P ++ W ++ [deedC a.deed] ++ R ++ (g0 :: G')) = ((adv (ln, c') (gapL a.gap)).1, (adv (ln, c') (gapL a.gap)).2) := by rw [adv_app, hc', hG]
        obtain ⟨i1, b, i2⟩ := rd_main hx r (P ++ W ++ [deedC a.deed] ++ R ++ (g0 :: G')) (l ++ [takenOf a]) _ _ (k + 1) (fun y hy => hok y (List.mem_cons_of_mem _ hy)) d6 hadv2 (by simp only [List.length_append, List.length_cons, List.length_nil] at hl ⊢; omega)
        refine ⟨by omega, b, ?_⟩
        have el5 : (P ++ W ++ [deedC a.deed] ++ R ++ (g0 :: G')).length = P.length + W.length + 1 + R.length + (g0 :: G').length := by rw [List.length_append, el4]
        rw [el5] at i2
        refine .next hp em es hb1 hws hll ?_
        rw [htk]
        obtain ⟨m, hm⟩ : ∃ m, (faultGo (adv (ln, c') (gapL a.gap)).1 (adv (ln, c') (gapL a.gap)).2 (k + 1) r).1 - k = m + 1 := ⟨(faultGo (adv (ln, c') (gapL a.gap)).1 (adv (ln, c') (gapL a.gap)).2 (k + 1) r).1 - (k + 1), by omega⟩
        have hm' : (faultGo (adv (ln, c') (gapL a.gap)).1 (adv (ln, c') (gapL a.gap)).2 (k + 1) r).1 - (k + 1) = m := by omega
        rw [hm, List.take_succ_cons, List.map_cons]
        rw [hm'] at i2
        have e9 : l ++ takenOf a :: (r.take m).map takenOf = l ++ [takenOf a] ++ (r.take m).map takenOf := by simp
        rw [e9]
        exact i2

theorem ws_start {x : Str} (hx : x.length < 900) (h : Head x.cps.toList) : Ws x 0 0 0 := by
  have := ws_g (x := x) (P := []) (G := []) (T := x.cps.toList) rfl h hx 0 0 0 (Nat.le_refl _) rfl
  exact this.1
/-- the plain law, whole -/
theorem plain_law (ns : List Int) : ∃ b, Ws (docN ns) 0 0 0 ∧ Rd (docN ns) (clsOf ns).length 0 [] (((clsOf ns).take (cntOf ns)).map takenOf) (wrdOf ns) b ∧ Plain ns (((clsOf ns).take (cntOf ns)).map takenOf) := by
  have hdl := doc_len ns
  have hcl := clsOf_len ns
  have hD : (docN ns).cps.toList = [] ++ ((clsOf ns).map writtenL).flatten := by
    unfold docN
    rw [join_list, List.map_map, List.nil_append]
    congr 1
    exact List.map_congr_left fun a _ => written_list a
  obtain ⟨_, b, h⟩ := rd_main (by omega) (clsOf ns) [] [] 1 1 0 (clsOf_ok ns) hD rfl (by simp; omega)
  refine ⟨b, ws_start (by omega) ?_, ?_, plain_of⟩
  · rw [hD, List.nil_append]; exact head_next _ (clsOf_ok ns)
  · rw [List.nil_append, Nat.sub_zero] at h
    exact h
end Mine
end
section
open PySem PySem.W PyProof.Rows PySem.Calls
set_option maxRecDepth 100000
namespace Mine
noncomputable section
noncomputable def paramsOf : Stmt → Arguments
  | .FunctionDef _ a .. => a
  | _ => ⟨[], [], Option.none, [], [], Option.none, []⟩
noncomputable abbrev envT : Env := { scope := prg.main.scope, locals := mainNs, globals := mainNs, cells := [], code := .ref 13, frame := some 14 }
noncomputable abbrev cT : Code := .body (behindTheImports prg) envT
noncomputable abbrev qT : Pos := ⟨0, 0, 0, 0⟩
noncomputable abbrev BT0 : List Frame := [topFrame qT]
noncomputable def kh (P : Params) (c : Nat) : Int := PyData.keyHash P ⟨#[c]⟩
noncomputable def d22 (P : Params) : Nat → Data
  | 0 => freshD P
  | j + 1 => addData (kh P j) (.str ⟨#[j]⟩ (202 + 4 * j)) (d22 P j)
noncomputable def d27 (P : Params) : Data := addData (kh P 127) (.str ⟨#[127]⟩ 330) (freshD P)
noncomputable def d31 (P : Params) : Data := addData (kh P 127) (.str ⟨#[127]⟩ 330) (copyData true P (d22 P 32))
noncomputable def d32 (P : Params) : Data := addData (kh P 9) (.str ⟨#[9]⟩ 334) (freshD P)
noncomputable def dropZ (z : Str) : Data → Data
  | .set es ep t => dropData ((es.findIdx? (·.2.isStr z)).getD 0) (.set es ep t)
  | d => d
noncomputable def d36 (P : Params) : Data := dropZ ⟨#[9]⟩ (copyData true P (d31 P))
noncomputable def d37a (P : Params) : Data := addData (kh P 32) (.str ⟨#[32]⟩ 339) (freshD P)
noncomputable def d37 (P : Params) : Data := addData (kh P 9) (.str ⟨#[9]⟩ 341) (d37a P)
noncomputable def d41 (P : Params) : Data := addData (kh P 10) (.str ⟨#[10]⟩ 345) (freshD P)
noncomputable def d45 (P : Params) : Data := addData (kh P 10) (.str ⟨#[10]⟩ 345) (copyData false P (d37 P))
noncomputable def ob11_0 (P : Params) : Obj := ⟨(Value.type "tuple"), Option.none, (.seq #[] 0), #[]⟩
noncomputable def ob12_0 (P : Params) : Obj := ⟨Value.none, Option.none, (.fields #[]), #[]⟩
noncomputable def ob13_0 (P : Params) : Obj := ⟨(Value.type "code"), Option.none, (.fields #[(Value.str (Str.ofString "<module>") 182), (Value.str (Str.ofString "<module>") 183), (Value.str (Str.ofString "/claim/cut.py") 184), (Value.int (1) 0), (Value.int (0) 0), (Value.int (0) 0), (Value.int (0) 0), (Value.int (0) 0), (Value.ref 11), (Value.bool false), (Value.int (181) 0), (Value.ref 12), Value.none, Value.none, Value.none, Value.none, (Value.int (185) 0), (Value.int (1) 0), (Value.str (Str.ofString "/claim/cut.py") 186)]), #[]⟩
noncomputable def ob14_0 (P : Params) : Obj := ⟨(Value.type "frame"), Option.none, .plain, #[(some (Value.ref 13)), (some (Value.ref 3)), (some (Value.ref 3)), Option.none, (some (Value.str (Str.ofString "__main__") 164)), Option.none, (some (Value.ref 0))]⟩
noncomputable def me0 (P : Params) : DictEntry := ⟨PyData.keyHash P (Str.ofString "__name__"), (Value.str (Str.ofString "__name__") 165), (Value.str (Str.ofString "cpy313.tomllib._parser") 187)⟩
noncomputable def me1 (P : Params) : DictEntry := ⟨PyData.keyHash P (Str.ofString "__doc__"), (Value.str (Str.ofString "__doc__") 166), Value.none⟩
noncomputable def me2 (P : Params) : DictEntry := ⟨PyData.keyHash P (Str.ofString "__package__"), (Value.str (Str.ofString "__package__") 167), Value.none⟩
noncomputable def me3 (P : Params) : DictEntry := ⟨PyData.keyHash P (Str.ofString "__loader__"), (Value.str (Str.ofString "__loader__") 168), (Value.builtin "__main__.__loader__#opaque")⟩
noncomputable def me4 (P : Params) : DictEntry := ⟨PyData.keyHash P (Str.ofString "__spec__"), (Value.str (Str.ofString "__spec__") 169), Value.none⟩
noncomputable def me5 (P : Params) : DictEntry := ⟨PyData.keyHash P (Str.ofString "__annotations__"), (Value.str (Str.ofString "__annotations__") 170), (Value.ref 6)⟩
noncomputable def me6 (P : Params) : DictEntry := ⟨PyData.keyHash P (Str.ofString "__builtins__"), (Value.str (Str.ofString "__builtins__") 171), (Value.ref 4)⟩
noncomputable def me7 (P : Params) : DictEntry := ⟨PyData.keyHash P (Str.ofString "__file__"), (Value.str (Str.ofString "__file__") 173), (Value.str (Str.ofString "/claim/cut.py") 172)⟩
noncomputable def me8 (P : Params) : DictEntry := ⟨PyData.keyHash P (Str.ofString "__cached__"), (Value.str (Str.ofString "__cached__") 174), Value.none⟩
noncomputable def ob3_0 (P : Params) : Obj := ⟨(Value.type "dict"), Option.none, (.dict #[me0 P, me1 P, me2 P, me3 P, me4 P, me5 P, me6 P, me7 P, me8 P] 9), #[]⟩
noncomputable def hpPre (P : Params) : Heap := ⟨#[(boot_o_0 P), (boot_o_1 P), (boot_o_2 P), (boot_o_3 P), (boot_o_4 P), (boot_o_5 P), (boot_o_6 P), (boot_o_7 P), (boot_o_8 P), (boot_o_9 P), (boot_o_10 P), (ob11_0 P), (ob12_0 P), (ob13_0 P), (ob14_0 P)], {}⟩
noncomputable def trBlock (P : Params) : BT := (.node (boot_o_0 P) (.node (boot_o_1 P) (.node (boot_o_3 P) (.node (boot_o_7 P) .nil .nil) (.node (ob11_0 P) .nil .nil)) (.node (boot_o_5 P) (.node (boot_o_9 P) .nil .nil) (.node (ob13_0 P) .nil .nil))) (.node (boot_o_2 P) (.node (boot_o_4 P) (.node (boot_o_8 P) .nil .nil) (.node (ob12_0 P) .nil .nil)) (.node (boot_o_6 P) (.node (boot_o_10 P) .nil .nil) (.node (ob14_0 P) .nil .nil))))
noncomputable def trP0 (P : Params) : BT := (.node (boot_o_0 P) (.node (boot_o_1 P) (.node (ob3_0 P) (.node (boot_o_7 P) .nil .nil) (.node (ob11_0 P) .nil .nil)) (.node (boot_o_5 P) (.node (boot_o_9 P) .nil .nil) (.node (ob13_0 P) .nil .nil))) (.node (boot_o_2 P) (.node (boot_o_4 P) (.node (boot_o_8 P) .nil .nil) (.node (ob12_0 P) .nil .nil)) (.node (boot_o_6 P) (.node (boot_o_10 P) .nil .nil) (.node (ob14_0 P) .nil .nil))))
theorem k_pre (w : World) (os : OsState) : topGo treeTable prg w 11 ANN 12 ⟨boot_heap w.params, #[], boot_drawn, boot_toks, os⟩ (topStub prg) = some (⟨hpPre w.params, #[], {}, 187, os⟩, ⟨denote treeTable cT, cT, ⟨0, 0, 0, 0⟩, BT0⟩) := by kernel_rfl
theorem k_block (w : World) (os : OsState) : segRun treeTable prg w 11 ANN 1 1 ⟨hpPre w.params, #[], {}, 187, os⟩ (blockOf (behindTheImports prg) envT cT ⟨0, 0, 0, 0⟩ BT0) = some (.next, SharedT.abs ⟨trBlock w.params, 15, {}, #[], {}, 187, os⟩, cT, ⟨0, 0, 0, 0⟩) := by kernel_rfl
theorem k_p0 (w : World) (os : OsState) : segRunT treeTable prg w 11 ANN 1 10 ⟨trBlock w.params, 15, {}, #[], {}, 187, os⟩ (piecesOf [stAt 0] envT cT ⟨0, 0, 0, 0⟩ BT0) = some (.next, ⟨trP0 w.params, 15, {}, #[], {}, 189, os⟩, cT, ⟨1, 0, 1, 8⟩) := by kernel_rfl
end
end Mine
end
section
open PySem PySem.W PyProof.Rows PySem.Calls
set_option maxRecDepth 100000
namespace Mine
noncomputable section
noncomputable def ob15_0 (P : Params) : Obj := ⟨(Value.type "range"), Option.none, (.fields #[(Value.int (0) 190), (Value.int (32) 189), (Value.int (1) 191)]), #[]⟩
noncomputable def ob19_0 (P : Params) : Obj := ⟨(Value.type "code"), Option.none, (.fields #[(Value.str (Str.ofString "<genexpr>") 192), (Value.str (Str.ofString "<genexpr>") 193), (Value.str (Str.ofString "/claim/cut.py") 194), (Value.int (2) 0), (Value.int (1) 0), (Value.int (0) 0), (Value.int (0) 0), (Value.int (35) 0), (Value.ref 17), (Value.bool true), (Value.int (181) 0), (Value.ref 18), Value.none, Value.none, Value.none, Value.none, (Value.int (195) 0), (Value.int (2) 0), (Value.str (Str.ofString "/claim/cut.py") 196)]), #[]⟩
noncomputable def ob17_0 (P : Params) : Obj := ⟨(Value.type "tuple"), Option.none, (.seq #[] 0), #[]⟩
noncomputable def ob21_0 (P : Params) : Obj := ⟨(Value.type "generator"), Option.none, (.fields #[(Value.int (0) 0), (Value.str (Str.ofString "<genexpr>") 198), (Value.str (Str.ofString "<genexpr>") 199)]), #[]⟩
noncomputable def ob12_1 (P : Params) : Obj := ⟨Value.none, Option.none, (.fields #[(Value.int (2) 0), (Value.int (23) 0), (Value.ref 19)]), #[]⟩
noncomputable def ob18_0 (P : Params) : Obj := ⟨Value.none, Option.none, (.fields #[]), #[]⟩
noncomputable def ob23_0 (P : Params) : Obj := ⟨(Value.type "tuple"), Option.none, (.seq #[] 0), #[]⟩
noncomputable def ob25_0 (P : Params) : Obj := ⟨(Value.type "tuple"), Option.none, (.seq #[] 0), #[]⟩
noncomputable def ob16_0 (P : Params) : Obj := ⟨(Value.type "range_iterator"), Option.none, (.fields #[(Value.int (32) 0), (Value.int (0) 0), (Value.int (1) 0)]), #[]⟩
noncomputable def ob24_0 (P : Params) : Obj := ⟨(Value.type "StopIteration"), Option.none, (.fields #[(Value.ref 23), Value.none, Value.none, Value.none, (Value.bool false), Value.none]), #[]⟩
noncomputable def ob20_0 (P : Params) : Obj := ⟨(Value.type "frame"), Option.none, (.dict #[⟨PyData.keyHash P (Str.ofString ".0"), (Value.str (Str.ofString ".0") 197), (Value.ref 16)⟩, ⟨PyData.keyHash P (Str.ofString "i"), (Value.str (Str.ofString "i") 201), (Value.int (31) 324)⟩] 2), #[]⟩
noncomputable def ob28_0 (P : Params) : Obj := ⟨(Value.type "str_ascii_iterator"), Option.none, (.fields #[(Value.str (Str.mk #[127]) 329), (Value.int (1) 0)]), #[]⟩
noncomputable def ob26_0 (P : Params) : Obj := ⟨(Value.type "StopIteration"), Option.none, (.fields #[(Value.ref 25), Value.none, Value.none, Value.none, (Value.bool false), Value.none]), #[]⟩
noncomputable def ob29_0 (P : Params) : Obj := ⟨(Value.type "tuple"), Option.none, (.seq #[] 0), #[]⟩
noncomputable def ob28_1 (P : Params) : Obj := ⟨(Value.type "str_ascii_iterator"), Option.none, (.fields #[Value.none, (Value.int (1) 0)]), #[]⟩
noncomputable def ob30_0 (P : Params) : Obj := ⟨(Value.type "StopIteration"), Option.none, (.fields #[(Value.ref 29), Value.none, Value.none, Value.none, (Value.bool false), Value.none]), #[]⟩
noncomputable def me9 (P : Params) : DictEntry := ⟨PyData.keyHash P (Str.ofString "ASCII_CTRL"), (Value.str (Str.ofString "ASCII_CTRL") 332), (Value.ref 31)⟩
noncomputable def ob3_1 (P : Params) : Obj := ⟨(Value.type "dict"), Option.none, (.dict #[me0 P, me1 P, me2 P, me3 P, me4 P, me5 P, me6 P, me7 P, me8 P, me9 P] 10), #[]⟩
noncomputable def trL (P : Params) (o16 o20 o22 : Obj) : BT := (.node (boot_o_0 P) (.node (boot_o_1 P) (.node (ob3_0 P) (.node (boot_o_7 P) (.node (ob15_0 P) .nil .nil) .nil) (.node (ob11_0 P) (.node (ob19_0 P) .nil .nil) .nil)) (.node (boot_o_5 P) (.node (boot_o_9 P) (.node (ob17_0 P) .nil .nil) .nil) (.node (ob13_0 P) (.node (ob21_0 P) .nil .nil) .nil))) (.node (boot_o_2 P) (.node (boot_o_4 P) (.node (boot_o_8 P) (.node o16 .nil .nil) .nil) (.node (ob12_1 P) (.node o20 .nil .nil) .nil)) (.node (boot_o_6 P) (.node (boot_o_10 P) (.node (ob18_0 P) .nil .nil) .nil) (.node (ob14_0 P) (.node o22 .nil .nil) .nil))))
noncomputable def tr27 (P : Params) (o27 : Obj) : BT := (.node (boot_o_0 P) (.node (boot_o_1 P) (.node (ob3_0 P) (.node (boot_o_7 P) (.node (ob15_0 P) .nil .nil) (.node (ob23_0 P) .nil .nil)) (.node (ob11_0 P) (.node (ob19_0 P) .nil .nil) (.node o27 .nil .nil))) (.node (boot_o_5 P) (.node (boot_o_9 P) (.node (ob17_0 P) .nil .nil) (.node (ob25_0 P) .nil .nil)) (.node (ob13_0 P) (.node (ob21_0 P) .nil .nil) .nil))) (.node (boot_o_2 P) (.node (boot_o_4 P) (.node (boot_o_8 P) (.node (ob16_0 P) .nil .nil) (.node (ob24_0 P) .nil .nil)) (.node (ob12_1 P) (.node (ob20_0 P) .nil .nil) (.node (ob28_0 P) .nil .nil))) (.node (boot_o_6 P) (.node (boot_o_10 P) (.node (ob18_0 P) .nil .nil) (.node (ob26_0 P) .nil .nil)) (.node (ob14_0 P) (.node (fo (d22 P 32)) .nil .nil) .nil))))
noncomputable def tr31 (P : Params) : BT := (.node (boot_o_0 P) (.node (boot_o_1 P) (.node (ob3_0 P) (.node (boot_o_7 P) (.node (ob15_0 P) .nil .nil) (.node (ob23_0 P) .nil .nil)) (.node (ob11_0 P) (.node (ob19_0 P) .nil .nil) (.node (fo (d27 P)) .nil .nil))) (.node (boot_o_5 P) (.node (boot_o_9 P) (.node (ob17_0 P) .nil .nil) (.node (ob25_0 P) .nil .nil)) (.node (ob13_0 P) (.node (ob21_0 P) .nil .nil) (.node (ob29_0 P) .nil .nil)))) (.node (boot_o_2 P) (.node (boot_o_4 P) (.node (boot_o_8 P) (.node (ob16_0 P) .nil .nil) (.node (ob24_0 P) .nil .nil)) (.node (ob12_1 P) (.node (ob20_0 P) .nil .nil) (.node (ob28_1 P) .nil .nil))) (.node (boot_o_6 P) (.node (boot_o_10 P) (.node (ob18_0 P) .nil .nil) (.node (ob26_0 P) .nil .nil)) (.node (ob14_0 P) (.node (fo (d22 P 32)) .nil .nil) (.node (ob30_0 P) .nil .nil)))))
noncomputable def tr31b (P : Params) : BT := (.node (boot_o_0 P) (.node (boot_o_1 P) (.node (ob3_0 P) (.node (boot_o_7 P) (.node (ob15_0 P) (.node (fo (d31 P)) .nil .nil) .nil) (.node (ob23_0 P) .nil .nil)) (.node (ob11_0 P) (.node (ob19_0 P) .nil .nil) (.node (fo (d27 P)) .nil .nil))) (.node (boot_o_5 P) (.node (boot_o_9 P) (.node (ob17_0 P) .nil .nil) (.node (ob25_0 P) .nil .nil)) (.node (ob13_0 P) (.node (ob21_0 P) .nil .nil) (.node (ob29_0 P) .nil .nil)))) (.node (boot_o_2 P) (.node (boot_o_4 P) (.node (boot_o_8 P) (.node (ob16_0 P) .nil .nil) (.node (ob24_0 P) .nil .nil)) (.node (ob12_1 P) (.node (ob20_0 P) .nil .nil) (.node (ob28_1 P) .nil .nil))) (.node (boot_o_6 P) (.node (boot_o_10 P) (.node (ob18_0 P) .nil .nil) (.node (ob26_0 P) .nil .nil)) (.node (ob14_0 P) (.node (fo (d22 P 32)) .nil .nil) (.node (ob30_0 P) .nil .nil)))))
noncomputable def trP1 (P : Params) : BT := (.node (boot_o_0 P) (.node (boot_o_1 P) (.node (ob3_1 P) (.node (boot_o_7 P) (.node (ob15_0 P) (.node (fo (d31 P)) .nil .nil) .nil) (.node (ob23_0 P) .nil .nil)) (.node (ob11_0 P) (.node (ob19_0 P) .nil .nil) (.node (fo (d27 P)) .nil .nil))) (.node (boot_o_5 P) (.node (boot_o_9 P) (.node (ob17_0 P) .nil .nil) (.node (ob25_0 P) .nil .nil)) (.node (ob13_0 P) (.node (ob21_0 P) .nil .nil) (.node (ob29_0 P) .nil .nil)))) (.node (boot_o_2 P) (.node (boot_o_4 P) (.node (boot_o_8 P) (.node (ob16_0 P) .nil .nil) (.node (ob24_0 P) .nil .nil)) (.node (ob12_1 P) (.node (ob20_0 P) .nil .nil) (.node (ob28_1 P) .nil .nil))) (.node (boot_o_6 P) (.node (boot_o_10 P) (.node (ob18_0 P) .nil .nil) (.node (ob26_0 P) .nil .nil)) (.node (ob14_0 P) (.node (fo (d22 P 32)) .nil .nil) (.node (ob30_0 P) .nil .nil)))))
noncomputable def o16 (j k : Int) : Obj := ⟨(Value.type "range_iterator"), Option.none, (.fields #[(Value.int j 0), (Value.int k 0), (Value.int (1) 0)]), #[]⟩
noncomputable def o20z (P : Params) : Obj := ⟨(Value.type "frame"), Option.none, (.dict #[⟨PyData.keyHash P (Str.ofString ".0"), (Value.str (Str.ofString ".0") 197), (Value.ref 16)⟩] 1), #[]⟩
noncomputable def o20 (P : Params) (j : Int) (k : Nat) : Obj := ⟨(Value.type "frame"), Option.none, (.dict #[⟨PyData.keyHash P (Str.ofString ".0"), (Value.str (Str.ofString ".0") 197), (Value.ref 16)⟩, ⟨PyData.keyHash P (Str.ofString "i"), (Value.str (Str.ofString "i") 201), (Value.int j k)⟩] 2), #[]⟩
noncomputable def gexp : PySem.Expr := match stAt 1 with
  | .Assign _ (.BinOp (.Call _ (g :: _) _ _) _ _ _) _ => g
  | _ => .Constant .none 0 qT
noncomputable def gscope : Scope := match gexp with
  | .GeneratorExp _ _ sc _ => sc
  | _ => prg.main.scope
noncomputable def cenv : Env := genEnv gscope [] 20 (.ref 19) 0 envT
noncomputable abbrev cL : Code := .compLoop gexp 0 (.ref 16) .none cenv
noncomputable abbrev cS : Code := .compStart gexp 0 (.ref 16) .none cenv
noncomputable abbrev cU : Code := (Code.builtin "set.update.loop" ⟨[(Value.ref 22), (Value.ref 21)], []⟩)
noncomputable abbrev pU : Pos := ⟨2, 13, 2, 51⟩
noncomputable def Kg : Resume → Sem Fin := fun r => Sem.onRaise (Sem.bind (Sem.bind (Sem.bind (Sem.pure r) (fun r => match r with | .send x => (pure x : Sem Value) | .throw e => raiseThrown e)) (fun _ => (pure PUnit.unit : Sem PUnit))) (fun _ => Sem.pure (.again cL))) (leaving cenv)
noncomputable def G1 : Array GenState := #[.suspended Kg [] cL ⟨2, 24, 2, 30⟩ [] false]
noncomputable def stU (k0 k1 k2 : Result → Sem Fin) : List Frame := [.ret (k0) Option.none false [(Value.ref 22)] (Code.builtin "frozenset.__new__" ⟨[(Value.type "frozenset"), (Value.ref 21)], []⟩) ⟨2, 13, 2, 51⟩ [(Value.ref 22), (Value.ref 21)],
  .ret (k1) Option.none false [] (Code.builtin "type.__call__" ⟨[(Value.type "frozenset"), (Value.ref 21)], []⟩) ⟨2, 13, 2, 51⟩ [(Value.builtin "frozenset.__new__"), (Value.type "frozenset"), (Value.ref 21), (Value.builtin "frozenset.__new__"), (Value.type "frozenset"), (Value.ref 21)],
  .ret (k2) Option.none false [] cT ⟨2, 13, 2, 51⟩ [(Value.type "frozenset"), (Value.ref 21)], topFrame qT]
noncomputable def kOf (i : Nat) (l : List Frame) : Result → Sem Fin := match l[i]? with
  | some (.ret k ..) => k
  | _ => fun _ => .unsupported ""
noncomputable def runA (w : World) (os : OsState) : Option (SharedT × Thread) := segGoT treeTable prg w 11 ANN 1 86 ⟨trP0 w.params, 15, {}, #[], {}, 189, os⟩ (piecesOf [stAt 1] envT cT ⟨1, 0, 1, 8⟩ BT0)
noncomputable def stA (w : World) (os : OsState) : List Frame := match runA w os with
  | some (_, t) => t.stack
  | none => []
noncomputable def AP (w : World) : Prop := ∀ os, runA w os = some (⟨trL w.params (o16 0 32) (o20z w.params) (fo (freshD w.params)), 23, {}, #[.fresh cS], {}, 200, os⟩, ⟨denote treeTable cU, cU, pU, stU (kOf 0 (stA w os)) (kOf 1 (stA w os)) (kOf 2 (stA w os))⟩)
theorem kk_A (w : World) : AP (w.withFollow "special-get-raises" false) ∧ AP (w.withFollow "special-get-raises" true) := by
  refine ⟨?_, ?_⟩
  · unfold AP; intro os; kernel_rfl
  · unfold AP; intro os; kernel_rfl
theorem k_A (w : World) : AP w := byRow2 "special-get-raises" (fun w => (kk_A w).1) (fun w => (kk_A w).2) w
end
end Mine
end
section
open PySem PySem.W PyProof.Rows PySem.Calls
set_option maxRecDepth 100000
namespace Mine
noncomputable section
noncomputable def addV (a : Addr) (c : Code) (x : Value) : Sem Fin := Sem.bind (holding [x] (setAdd a x)) (fun _ => again c)
noncomputable def L0 (n : Nat) (w : World) : Prop := ∀ (os : OsState) (d : Data) (k0 k1 k2 : Result → Sem Fin), segGoT treeTable prg w 11 ANN 1 n ⟨trL w.params (o16 0 32) (o20z w.params) (fo d), 23, {}, #[.fresh cS], {}, 200, os⟩ ⟨denote treeTable cU, cU, pU, stU k0 k1 k2⟩ =
  some (⟨trL w.params (o16 1 31) (o20 w.params 0 200) (fo d), 23, {}, G1, {}, 203, os⟩, ⟨addV 22 cU (.str ⟨#[0]⟩ 202), cU, pU, stU k0 k1 k2⟩)
theorem kk_L0 (w : World) : L0 46 (w.withFollow "comprehension-iter-twice" true) ∧ L0 56 ((w.withFollow "special-get-raises" false).withFollow "comprehension-iter-twice" false) ∧ L0 56 ((w.withFollow "special-get-raises" true).withFollow "comprehension-iter-twice" false) := by
  refine ⟨?_, ?_, ?_⟩
  · unfold L0; intro os d k0 k1 k2; kernel_rfl
  · unfold L0; intro os d k0 k1 k2; kernel_rfl
  · unfold L0; intro os d k0 k1 k2; kernel_rfl
theorem k_L0 (w : World) : ∃ n, n ≤ 56 ∧ L0 n w := byRow2 "comprehension-iter-twice" (P := fun w => ∃ n, n ≤ 56 ∧ L0 n w) (byRow2 "special-get-raises" (P := fun w => ∃ n, n ≤ 56 ∧ L0 n (w.withFollow "comprehension-iter-twice" false)) (fun w => ⟨56, Nat.le_refl _, (kk_L0 w).2.1⟩) (fun w => ⟨56, Nat.le_refl _, (kk_L0 w).2.2⟩)) (fun w => ⟨46, by decide, (kk_L0 w).1⟩) w
noncomputable def LJ (j : Nat) (w : World) : Prop := ∀ (os : OsState) (d : Data) (k0 k1 k2 : Result → Sem Fin), segGoT treeTable prg w 11 ANN 1 46 ⟨trL w.params (o16 j (32 - j)) (o20 w.params (j - 1) (196 + 4 * j)) (fo d), 23, {}, G1, {}, 200 + 4 * j, os⟩ ⟨.pure (.again cU), cU, pU, stU k0 k1 k2⟩ =
  some (⟨trL w.params (o16 (j + 1) (31 - j)) (o20 w.params j (200 + 4 * j)) (fo d), 23, {}, G1, {}, 203 + 4 * j, os⟩, ⟨addV 22 cU (.str ⟨#[j]⟩ (202 + 4 * j)), cU, pU, stU k0 k1 k2⟩)
theorem k_LJ0 (w : World) : LJ 1 w ∧ LJ 2 w ∧ LJ 3 w ∧ LJ 4 w ∧ LJ 5 w ∧ LJ 6 w ∧ LJ 7 w ∧ LJ 8 w := by
  refine ⟨?_, ?_, ?_, ?_, ?_, ?_, ?_, ?_⟩
  all_goals (unfold LJ; intro os d k0 k1 k2; kernel_rfl)
theorem k_LJ1 (w : World) : LJ 9 w ∧ LJ 10 w ∧ LJ 11 w ∧ LJ 12 w ∧ LJ 13 w ∧ LJ 14 w ∧ LJ 15 w ∧ LJ 16 w := by
  refine ⟨?_, ?_, ?_, ?_, ?_, ?_, ?_, ?_⟩
  all_goals (unfold LJ; intro os d k0 k1 k2; kernel_rfl)
theorem k_LJ2 (w : World) : LJ 17 w ∧ LJ 18 w ∧ LJ 19 w ∧ LJ 20 w ∧ LJ 21 w ∧ LJ 22 w ∧ LJ 23 w ∧ LJ 24 w := by
  refine ⟨?_, ?_, ?_, ?_, ?_, ?_, ?_, ?_⟩
  all_goals (unfold LJ; intro os d k0 k1 k2; kernel_rfl)
theorem k_LJ3 (w : World) : LJ 25 w ∧ LJ 26 w ∧ LJ 27 w ∧ LJ 28 w ∧ LJ 29 w ∧ LJ 30 w ∧ LJ 31 w := by
  refine ⟨?_, ?_, ?_, ?_, ?_, ?_, ?_⟩
  all_goals (unfold LJ; intro os d k0 k1 k2; kernel_rfl)
theorem k_LJ (w : World) : ∀ j : Nat, 1 ≤ j → j < 32 → LJ j w := fun j h1 h2 => match j, h1, h2 with
  | 1, _, _ => (k_LJ0 w).1
  | 2, _, _ => (k_LJ0 w).2.1
  | 3, _, _ => (k_LJ0 w).2.2.1
  | 4, _, _ => (k_LJ0 w).2.2.2.1
  | 5, _, _ => (k_LJ0 w).2.2.2.2.1
  | 6, _, _ => (k_LJ0 w).2.2.2.2.2.1
  | 7, _, _ => (k_LJ0 w).2.2.2.2.2.2.1
  | 8, _, _ => (k_LJ0 w).2.2.2.2.2.2.2
  | 9, _, _ => (k_LJ1 w).1
  | 10, _, _ => (k_LJ1 w).2.1
  | 11, _, _ => (k_LJ1 w).2.2.1
  | 12, _, _ => (k_LJ1 w).2.2.2.1
  | 13, _, _ => (k_LJ1 w).2.2.2.2.1
  | 14, _, _ => (k_LJ1 w).2.2.2.2.2.1
  | 15, _, _ => (k_LJ1 w).2.2.2.2.2.2.1
  | 16, _, _ => (k_LJ1 w).2.2.2.2.2.2.2
  | 17, _, _ => (k_LJ2 w).1
  | 18, _, _ => (k_LJ2 w).2.1
  | 19, _, _ => (k_LJ2 w).2.2.1
  | 20, _, _ => (k_LJ2 w).2.2.2.1
  | 21, _, _ => (k_LJ2 w).2.2.2.2.1
  | 22, _, _ => (k_LJ2 w).2.2.2.2.2.1
  | 23, _, _ => (k_LJ2 w).2.2.2.2.2.2.1
  | 24, _, _ => (k_LJ2 w).2.2.2.2.2.2.2
  | 25, _, _ => (k_LJ3 w).1
  | 26, _, _ => (k_LJ3 w).2.1
  | 27, _, _ => (k_LJ3 w).2.2.1
  | 28, _, _ => (k_LJ3 w).2.2.2.1
  | 29, _, _ => (k_LJ3 w).2.2.2.2.1
  | 30, _, _ => (k_LJ3 w).2.2.2.2.2.1
  | 31, _, _ => (k_LJ3 w).2.2.2.2.2.2
  | 0, h, _ => absurd h (by decide)
  | n + 32, _, h => absurd h (by omega)
end
end Mine
end
section
open PySem PySem.W PyProof.Rows PySem.Calls
set_option maxRecDepth 100000
namespace Mine
noncomputable section
theorem hash0 (b : Bool) (hb : b = true ∨ b = false) (w : World) (c : Nat) (tok : Tok) (s : Shared) (K : Int → Sem Fin) (H : Value → Sem Fin) (gd : Bool → Bool) (lv : List Value → List Value) (cc : Code) (p : Pos) (f g : Frame) (st : List Frame) :
    segGo treeTable prg (w.withFollow "special-get-raises" b) 11 ANN 1 7 s ⟨(pyHash (.str ⟨#[c]⟩ tok)).wrap K H gd lv, cc, p, f :: g :: st⟩ = some ({ s with toks := s.toks + 1 }, ⟨K (kh (w.withFollow "special-get-raises" b).params c), cc, p, f :: g :: st⟩) := by
  rcases hb with rfl | rfl
  · kernel_rfl
  · kernel_rfl
section
variable {w : World} {s : Shared}
theorem runs_hash {c : Nat} {tok : Tok} : Runs w 7 (pyHash (.str ⟨#[c]⟩ tok)) s (kh w.params c) { s with toks := s.toks + 1 } :=
  byRow2 "special-get-raises" (P := fun w => Runs w 7 (pyHash (.str ⟨#[c]⟩ tok)) s (kh w.params c) { s with toks := s.toks + 1 }) (fun w K H gd lv cc p f g st => ⟨7, Nat.le_refl _, hash0 false (.inr rfl) w c tok s K H gd lv cc p f g st⟩) (fun w K H gd lv cc p f g st => ⟨7, Nat.le_refl _, hash0 true (.inl rfl) w c tok s K H gd lv cc p f g st⟩) w
theorem runs_setAdd {a : Addr} {c : Nat} {tok : Tok} {es : Array (Int × Value)} {ep : Nat} {t : SetTable} (ho : s.heap.get? a = some (fo (.set es ep t))) (hf : t.fits es.size = true) (ha : Nat.ble 11 a = true) (hel : ∀ e ∈ es.toList, ∃ y j, e.2 = Value.str y j ∧ y ≠ ⟨#[c]⟩) (hsz : es.size + 1 < scanBound) :
    Runs w 19 (setAdd a (.str ⟨#[c]⟩ tok)) s true { s with heap := s.heap.update a (fun _ => fo (addData (kh w.params c) (.str ⟨#[c]⟩ tok) (.set es ep t))), toks := s.toks + 1 } := by
  unfold setAdd
  refine Runs.holding (Runs.bind (A := 7) (B := 12) runs_hash ?_)
  exact runs_addH (s := { s with toks := s.toks + 1 }) ho hf ha hel hsz

/-- what a set's list may take -/
noncomputable def Takes (L : List (Int × Value)) (c : Nat) : Prop := ∀ e ∈ L, ∃ (y : Str) (j : Tok), e.2 = Value.str y j ∧ y ≠ ⟨#[c]⟩
theorem abs_fo {T : BT} {n : Nat} {life : Life} {a : Addr} {d : Data} (hlt : a < n) (hg : T.get a = some (fo d)) (hd : d ≠ .freed) : (absHeap T n life).get? a = some (fo d) := by
  rw [abs_get hlt hg]
  unfold alive fo
  split
  · rename_i h; cases h; exact absurd rfl hd
  · rfl
theorem reach_addV {T T' : BT} {n : Nat} {life : Life} {gens : Array GenState} {dr : Drawn} {toks : Nat} {os : OsState} {a : Addr} {d : Data} {L : List (Int × Value)} {c : Nat} {tok : Tok} {cd cc : Code} {p : Pos} {f g : Frame} {st : List Frame}
    (hlt : a < n) (ha : Nat.ble 11 a = true) (hg : T.get a = some (fo d)) (hd : SD L d) (hL : L.length < 39) (ht : Takes L c) (hT : T.set a (fun _ => fo (addData (kh w.params c) (.str ⟨#[c]⟩ tok) d)) = T') :
    Reach w 19 (SharedT.abs ⟨T, n, life, gens, dr, toks, os⟩) ⟨addV a cd (.str ⟨#[c]⟩ tok), cc, p, f :: g :: st⟩ (SharedT.abs ⟨T', n, life, gens, dr, toks + 1, os⟩) ⟨.pure (.again cd), cc, p, f :: g :: st⟩ := by
  obtain ⟨es, ep, t, rfl, k1, k2⟩ := id hd
  have ho : (SharedT.abs ⟨T, n, life, gens, dr, toks, os⟩).heap.get? a = some (fo (.set es ep t)) := abs_fo hlt hg (fun z => nomatch z)
  have r := runs_setAdd (w := w) (c := c) (tok := tok) ho (k1.fits (by omega)) ha (fun e he => ht e (k2.mem_iff.mp he)) (by rw [k1.size]; have : scanBound = 4096 := rfl; omega)
  have r2 := r.holding (vs := [.str ⟨#[c]⟩ tok]) (fun _ => .pure (.again cd)) .raise id id cc p f g st
  unfold addV
  rw [Sem.bind_eq_wrap]
  have e : ({ (SharedT.abs ⟨T, n, life, gens, dr, toks, os⟩) with heap := (SharedT.abs ⟨T, n, life, gens, dr, toks, os⟩).heap.update a (fun _ => fo (addData (kh w.params c) (.str ⟨#[c]⟩ tok) (.set es ep t))), toks := toks + 1 } : Shared) = SharedT.abs ⟨T', n, life, gens, dr, toks + 1, os⟩ := by
    subst hT
    show Shared.mk ((absHeap T n life).update a _) gens dr (toks + 1) os = Shared.mk (absHeap (T.set a _) n life) gens dr (toks + 1) os
    rw [absHeap_set hg]
  rw [← e]
  exact r2
theorem Reach.ofT {n : Nat} {s s' : SharedT} {t t' : Thread} (h : segGoT treeTable prg w 11 ANN 1 n s t = some (s', t')) : Reach w n s.abs t s'.abs t' := ⟨n, Nat.le_refl _, segGo_of h⟩

noncomputable def l22 (P : Params) : Nat → List (Int × Value)
  | 0 => []
  | j + 1 => l22 P j ++ [(kh P j, .str ⟨#[j]⟩ (202 + 4 * j))]
theorem l22_len (P : Params) : ∀ j, (l22 P j).length = j
  | 0 => rfl
  | j + 1 => by rw [l22, List.length_append, l22_len P j]; rfl
theorem l22_mem (P : Params) : ∀ j e, e ∈ l22 P j → ∃ i, i < j ∧ e = (kh P i, .str ⟨#[i]⟩ (202 + 4 * i))
  | 0, e, h => by simp [l22] at h
  | j + 1, e, h => by
    rw [l22, List.mem_append] at h
    rcases h with h | h
    · obtain ⟨i, h1, h2⟩ := l22_mem P j e h
      exact ⟨i, by omega, h2⟩
    · rw [List.mem_singleton] at h
      exact ⟨j, by omega, h⟩
theorem str1_ne {i c : Nat} (h : i ≠ c) : (⟨#[i]⟩ : Str) ≠ ⟨#[c]⟩ := fun e => h (by injection e with e; simpa using e)
theorem l22_takes (P : Params) (j c : Nat) (h : j ≤ c) : Takes (l22 P j) c := fun e he => by
  obtain ⟨i, h1, rfl⟩ := l22_mem P j e he
  exact ⟨_, _, rfl, str1_ne (by omega)⟩
theorem sd22 (P : Params) : ∀ j, j ≤ 39 → SD (l22 P j) (d22 P j)
  | 0, _ => SD.fresh
  | j + 1, h => SD.add (sd22 P j (by omega)) (by rw [l22_len]; omega)

theorem loop22 (os : OsState) (k0 k1 k2 : Result → Sem Fin) : ∀ j, 1 ≤ j → j ≤ 32 → Reach w (100 * j) (SharedT.abs ⟨trL w.params (o16 0 32) (o20z w.params) (fo (freshD w.params)), 23, {}, #[.fresh cS], {}, 200, os⟩) ⟨denote treeTable cU, cU, pU, stU k0 k1 k2⟩
    (SharedT.abs ⟨trL w.params (o16 j (32 - j)) (o20 w.params (j - 1) (196 + 4 * j)) (fo (d22 w.params j)), 23, {}, G1, {}, 200 + 4 * j, os⟩) ⟨.pure (.again cU), cU, pU, stU k0 k1 k2⟩
  | 0, h, _ => absurd h (by decide)
  | 1, _, _ => by
    obtain ⟨n, hn, h⟩ := k_L0 w
    refine Reach.up ((Reach.ofT (h os _ k0 k1 k2)).trans (reach_addV (L := []) (by decide) rfl rfl SD.fresh (by decide) (fun e he => by simp at he) rfl)) ?_
    omega
  | j + 2, _, hj => by
    have ih := loop22 os k0 k1 k2 (j + 1) (by omega) (by omega)
    have h := k_LJ w (j + 1) (by omega) (by omega) os (d22 w.params (j + 1)) k0 k1 k2
    have e1 : ((j + 1 : Nat) : Int) + 1 = ((j + 2 : Nat) : Int) := by omega
    have e2 : (31 : Int) - ((j + 1 : Nat) : Int) = 32 - ((j + 2 : Nat) : Int) := by omega
    have e3 : ((j + 1 : Nat) : Int) = ((j + 2 : Nat) : Int) - 1 := by omega
    have a : Reach w 19 (SharedT.abs ⟨trL w.params (o16 ((j + 1 : Nat) + 1) (31 - (j + 1 : Nat))) (o20 w.params (j + 1 : Nat) (200 + 4 * (j + 1))) (fo (d22 w.params (j + 1))), 23, {}, G1, {}, 203 + 4 * (j + 1), os⟩) ⟨addV 22 cU (.str ⟨#[j + 1]⟩ (202 + 4 * (j + 1))), cU, pU, stU k0 k1 k2⟩
        (SharedT.abs ⟨trL w.params (o16 ((j + 1 : Nat) + 1) (31 - (j + 1 : Nat))) (o20 w.params (j + 1 : Nat) (200 + 4 * (j + 1))) (fo (d22 w.params (j + 2))), 23, {}, G1, {}, 203 + 4 * (j + 1) + 1, os⟩) ⟨.pure (.again cU), cU, pU, stU k0 k1 k2⟩ :=
      reach_addV (by decide) rfl rfl (sd22 w.params (j + 1) (by omega)) (by rw [l22_len]; omega) (l22_takes w.params (j + 1) (j + 1) (Nat.le_refl _)) rfl
    have := Reach.up ((ih.trans (Reach.ofT h)).trans a) (B := 100 * (j + 2)) (by omega)
    rw [e1, e2] at this
    rw [show 196 + 4 * (j + 2) = 200 + 4 * (j + 1) by omega, show 200 + 4 * (j + 2) = 203 + 4 * (j + 1) + 1 by omega]
    rw [e3] at this
    exact this
end
end
end Mine
end
section
open PySem PySem.W PyProof.Rows PySem.Calls
set_option maxRecDepth 100000
namespace Mine
noncomputable section
structure SV where
  es : Array (Int × Value)
  ep : Nat
  t : SetTable
noncomputable def fs (x : SV) : Obj := fo (.set x.es x.ep x.t)
noncomputable def svF (P : Params) : SV := ⟨#[], 0, .fresh 0 0 (!P.followText "set-order")⟩
noncomputable def t1a (P : Params) (d22 : SV) (d27 : SV) : BT := (.node (boot_o_0 P) (.node (boot_o_1 P) (.node (ob3_0 P) (.node (boot_o_7 P) (.node (ob15_0 P) .nil .nil) (.node (ob23_0 P) .nil .nil)) (.node (ob11_0 P) (.node (ob19_0 P) .nil .nil) (.node (fs d27) .nil .nil))) (.node (boot_o_5 P) (.node (boot_o_9 P) (.node (ob17_0 P) .nil .nil) (.node (ob25_0 P) .nil .nil)) (.node (ob13_0 P) (.node (ob21_0 P) .nil .nil) .nil))) (.node (boot_o_2 P) (.node (boot_o_4 P) (.node (boot_o_8 P) (.node (ob16_0 P) .nil .nil) (.node (ob24_0 P) .nil .nil)) (.node (ob12_1 P) (.node (ob20_0 P) .nil .nil) (.node (ob28_0 P) .nil .nil))) (.node (boot_o_6 P) (.node (boot_o_10 P) (.node (ob18_0 P) .nil .nil) (.node (ob26_0 P) .nil .nil)) (.node (ob14_0 P) (.node (fs d22) .nil .nil) .nil))))
noncomputable def t1b (P : Params) (d22 : SV) (d27 : SV) : BT := (.node (boot_o_0 P) (.node (boot_o_1 P) (.node (ob3_0 P) (.node (boot_o_7 P) (.node (ob15_0 P) .nil .nil) (.node (ob23_0 P) .nil .nil)) (.node (ob11_0 P) (.node (ob19_0 P) .nil .nil) (.node (fs d27) .nil .nil))) (.node (boot_o_5 P) (.node (boot_o_9 P) (.node (ob17_0 P) .nil .nil) (.node (ob25_0 P) .nil .nil)) (.node (ob13_0 P) (.node (ob21_0 P) .nil .nil) .nil))) (.node (boot_o_2 P) (.node (boot_o_4 P) (.node (boot_o_8 P) (.node (ob16_0 P) .nil .nil) (.node (ob24_0 P) .nil .nil)) (.node (ob12_1 P) (.node (ob20_0 P) .nil .nil) (.node (ob28_0 P) .nil .nil))) (.node (boot_o_6 P) (.node (boot_o_10 P) (.node (ob18_0 P) .nil .nil) (.node (ob26_0 P) .nil .nil)) (.node (ob14_0 P) (.node (fs d22) .nil .nil) .nil))))
noncomputable def t1c (P : Params) (d22 : SV) (d27 : SV) : BT := (.node (boot_o_0 P) (.node (boot_o_1 P) (.node (ob3_0 P) (.node (boot_o_7 P) (.node (ob15_0 P) .nil .nil) (.node (ob23_0 P) .nil .nil)) (.node (ob11_0 P) (.node (ob19_0 P) .nil .nil) (.node (fs d27) .nil .nil))) (.node (boot_o_5 P) (.node (boot_o_9 P) (.node (ob17_0 P) .nil .nil) (.node (ob25_0 P) .nil .nil)) (.node (ob13_0 P) (.node (ob21_0 P) .nil .nil) (.node (ob29_0 P) .nil .nil)))) (.node (boot_o_2 P) (.node (boot_o_4 P) (.node (boot_o_8 P) (.node (ob16_0 P) .nil .nil) (.node (ob24_0 P) .nil .nil)) (.node (ob12_1 P) (.node (ob20_0 P) .nil .nil) (.node (ob28_1 P) .nil .nil))) (.node (boot_o_6 P) (.node (boot_o_10 P) (.node (ob18_0 P) .nil .nil) (.node (ob26_0 P) .nil .nil)) (.node (ob14_0 P) (.node (fs d22) .nil .nil) (.node (ob30_0 P) .nil .nil)))))
noncomputable def t1d (P : Params) (d22 : SV) (d27 : SV) (d31 : SV) : BT := (.node (boot_o_0 P) (.node (boot_o_1 P) (.node (ob3_0 P) (.node (boot_o_7 P) (.node (ob15_0 P) (.node (fs d31) .nil .nil) .nil) (.node (ob23_0 P) .nil .nil)) (.node (ob11_0 P) (.node (ob19_0 P) .nil .nil) (.node (fs d27) .nil .nil))) (.node (boot_o_5 P) (.node (boot_o_9 P) (.node (ob17_0 P) .nil .nil) (.node (ob25_0 P) .nil .nil)) (.node (ob13_0 P) (.node (ob21_0 P) .nil .nil) (.node (ob29_0 P) .nil .nil)))) (.node (boot_o_2 P) (.node (boot_o_4 P) (.node (boot_o_8 P) (.node (ob16_0 P) .nil .nil) (.node (ob24_0 P) .nil .nil)) (.node (ob12_1 P) (.node (ob20_0 P) .nil .nil) (.node (ob28_1 P) .nil .nil))) (.node (boot_o_6 P) (.node (boot_o_10 P) (.node (ob18_0 P) .nil .nil) (.node (ob26_0 P) .nil .nil)) (.node (ob14_0 P) (.node (fs d22) .nil .nil) (.node (ob30_0 P) .nil .nil)))))
noncomputable def t1e (P : Params) (d22 : SV) (d27 : SV) (d31 : SV) : BT := (.node (boot_o_0 P) (.node (boot_o_1 P) (.node (ob3_1 P) (.node (boot_o_7 P) (.node (ob15_0 P) (.node (fs d31) .nil .nil) .nil) (.node (ob23_0 P) .nil .nil)) (.node (ob11_0 P) (.node (ob19_0 P) .nil .nil) (.node (fs d27) .nil .nil))) (.node (boot_o_5 P) (.node (boot_o_9 P) (.node (ob17_0 P) .nil .nil) (.node (ob25_0 P) .nil .nil)) (.node (ob13_0 P) (.node (ob21_0 P) .nil .nil) (.node (ob29_0 P) .nil .nil)))) (.node (boot_o_2 P) (.node (boot_o_4 P) (.node (boot_o_8 P) (.node (ob16_0 P) .nil .nil) (.node (ob24_0 P) .nil .nil)) (.node (ob12_1 P) (.node (ob20_0 P) .nil .nil) (.node (ob28_1 P) .nil .nil))) (.node (boot_o_6 P) (.node (boot_o_10 P) (.node (ob18_0 P) .nil .nil) (.node (ob26_0 P) .nil .nil)) (.node (ob14_0 P) (.node (fs d22) .nil .nil) (.node (ob30_0 P) .nil .nil)))))
noncomputable def sf_s1e1 (k0 k1 k2 : Result → Sem Fin) : List Frame := [.ret (k0) Option.none false [(Value.ref 27)] (Code.builtin "frozenset.__new__" ⟨[(Value.type "frozenset"), (Value.str (Str.mk #[127]) 329)], []⟩) ⟨2, 54, 2, 73⟩ [(Value.ref 27), (Value.ref 28)],
  .ret (k1) Option.none false [] (Code.builtin "type.__call__" ⟨[(Value.type "frozenset"), (Value.str (Str.mk #[127]) 329)], []⟩) ⟨2, 54, 2, 73⟩ [(Value.builtin "frozenset.__new__"), (Value.type "frozenset"), (Value.str (Str.mk #[127]) 329), (Value.builtin "frozenset.__new__"), (Value.type "frozenset"), (Value.str (Str.mk #[127]) 329)],
  .ret (k2) Option.none false [(Value.ref 22)] cT ⟨2, 54, 2, 73⟩ [(Value.type "frozenset"), (Value.str (Str.mk #[127]) 329)], topFrame qT]
noncomputable def run_s1e1 (w : World) (os : OsState) (d22 : SV) : Option (SharedT × Thread) := segGoT treeTable prg w 11 ANN 1 79 ⟨trL w.params (o16 32 0) (o20 w.params 31 324) (fs d22), 23, {}, G1, {}, 328, os⟩ ⟨.pure (.again cU), cU, pU, stU (kOf 0 (stA w os)) (kOf 1 (stA w os)) (kOf 2 (stA w os))⟩
noncomputable def ev_s1e1 (w : World) (os : OsState) (d22 : SV) : List Frame := match run_s1e1 w os d22 with
  | some (_, t) => t.stack
  | none => []
noncomputable abbrev st_s1e1 (w : World) (os : OsState) (d22 : SV) : List Frame := sf_s1e1 (kOf 0 (ev_s1e1 w os d22)) (kOf 1 (ev_s1e1 w os d22)) (kOf 2 (ev_s1e1 w os d22))
noncomputable def KP_s1e1 (w : World) : Prop := ∀ (os : OsState) (d22 : SV), run_s1e1 w os d22 = some (⟨t1a w.params d22 (svF w.params), 29, {}, #[.finished], {}, 331, os⟩, ⟨addV 27 ((Code.builtin "set.update.loop" ⟨[(Value.ref 27), (Value.ref 28)], []⟩)) (.str ⟨#[127]⟩ 330), (Code.builtin "set.update.loop" ⟨[(Value.ref 27), (Value.ref 28)], []⟩), ⟨2, 54, 2, 73⟩, st_s1e1 w os d22⟩)
noncomputable def sf_s1e2 (k0 : Result → Sem Fin) : List Frame := [.ret (k0) Option.none false [(Value.ref 22), (Value.ref 27), (Value.ref 22), (Value.ref 27), (Value.ref 22), (Value.ref 27)] cT ⟨2, 13, 2, 73⟩ [(Value.builtin "frozenset.__or__"), (Value.ref 22), (Value.ref 27)], topFrame qT]
noncomputable def run_s1e2 (w : World) (os : OsState) (d22 : SV) (d27 : SV) : Option (SharedT × Thread) := segGoT treeTable prg w 11 ANN 1 34 ⟨t1b w.params d22 d27, 29, {}, #[.finished], {}, 332, os⟩ ⟨.pure (.again ((Code.builtin "set.update.loop" ⟨[(Value.ref 27), (Value.ref 28)], []⟩))), (Code.builtin "set.update.loop" ⟨[(Value.ref 27), (Value.ref 28)], []⟩), ⟨2, 54, 2, 73⟩, st_s1e1 w os d22⟩
noncomputable def ev_s1e2 (w : World) (os : OsState) (d22 : SV) (d27 : SV) : List Frame := match run_s1e2 w os d22 d27 with
  | some (_, t) => t.stack
  | none => []
noncomputable abbrev st_s1e2 (w : World) (os : OsState) (d22 : SV) (d27 : SV) : List Frame := sf_s1e2 (kOf 0 (ev_s1e2 w os d22 d27))
noncomputable def KP_s1e2 (w : World) : Prop := ∀ (os : OsState) (d22 : SV) (d27 : SV), run_s1e2 w os d22 d27 = some (⟨t1c w.params d22 d27, 31, {}, #[.finished], {}, 332, os⟩, ⟨denote treeTable ((Code.builtin "frozenset.__or__" ⟨[(Value.ref 22), (Value.ref 27)], []⟩)), (Code.builtin "frozenset.__or__" ⟨[(Value.ref 22), (Value.ref 27)], []⟩), ⟨2, 13, 2, 73⟩, st_s1e2 w os d22 d27⟩)
noncomputable def KP_s1e3 (w : World) : Prop := ∀ (os : OsState) (d22 : SV) (d27 : SV) (d31 : SV), segRunT treeTable prg w 11 ANN 1 10 ⟨t1d w.params d22 d27 d31, 32, {}, #[.finished], {}, 332, os⟩ ⟨.pure (.done (.ret (.ref 31))), (Code.builtin "frozenset.__or__" ⟨[(Value.ref 22), (Value.ref 27)], []⟩), ⟨2, 13, 2, 73⟩, st_s1e2 w os d22 d27⟩ = some (.next, ⟨t1e w.params d22 d27 d31, 32, {}, #[.finished], {}, 333, os⟩, cT, ⟨2, 0, 2, 10⟩)
theorem kk_H15 (w : World) : (KP_s1e1 (w.withFollow "special-get-raises" false) ∧ KP_s1e1 (w.withFollow "special-get-raises" true)) ∧ (KP_s1e2 (w.withFollow "special-get-raises" false) ∧ KP_s1e2 (w.withFollow "special-get-raises" true)) ∧ (KP_s1e3 (w.withFollow "special-get-raises" false) ∧ KP_s1e3 (w.withFollow "special-get-raises" true)) := by
  refine ⟨⟨?_, ?_⟩, ⟨?_, ?_⟩, ⟨?_, ?_⟩⟩
  · unfold KP_s1e1; intro os d22; kernel_rfl
  · unfold KP_s1e1; intro os d22; kernel_rfl
  · unfold KP_s1e2; intro os d22 d27; kernel_rfl
  · unfold KP_s1e2; intro os d22 d27; kernel_rfl
  · unfold KP_s1e3; intro os d22 d27 d31; kernel_rfl
  · unfold KP_s1e3; intro os d22 d27 d31; kernel_rfl
theorem k_s1e1 (w : World) : KP_s1e1 w := byRow2 "special-get-raises" (fun w => (kk_H15 w).1.1) (fun w => (kk_H15 w).1.2) w
theorem k_s1e2 (w : World) : KP_s1e2 w := byRow2 "special-get-raises" (fun w => (kk_H15 w).2.1.1) (fun w => (kk_H15 w).2.1.2) w
theorem k_s1e3 (w : World) : KP_s1e3 w := byRow2 "special-get-raises" (fun w => (kk_H15 w).2.2.1) (fun w => (kk_H15 w).2.2.2) w
end
end Mine
end
section
open PySem PySem.W PyProof.Rows PySem.Calls
set_option maxRecDepth 100000
namespace Mine
noncomputable section
noncomputable def ob33_0 (P : Params) : Obj := ⟨(Value.type "str_ascii_iterator"), Option.none, (.fields #[(Value.str (Str.mk #[9]) 333), (Value.int (1) 0)]), #[]⟩
noncomputable def ob35_0 (P : Params) : Obj := ⟨(Value.type "StopIteration"), Option.none, (.fields #[(Value.ref 34), Value.none, Value.none, Value.none, (Value.bool false), Value.none]), #[]⟩
noncomputable def ob33_1 (P : Params) : Obj := ⟨(Value.type "str_ascii_iterator"), Option.none, (.fields #[Value.none, (Value.int (1) 0)]), #[]⟩
noncomputable def ob34_0 (P : Params) : Obj := ⟨(Value.type "tuple"), Option.none, (.seq #[] 0), #[]⟩
noncomputable def me10 (P : Params) : DictEntry := ⟨PyData.keyHash P (Str.ofString "ILLEGAL_BASIC_STR_CHARS"), (Value.str (Str.ofString "ILLEGAL_BASIC_STR_CHARS") 336), (Value.ref 36)⟩
noncomputable def ob3_2 (P : Params) : Obj := ⟨(Value.type "dict"), Option.none, (.dict #[me0 P, me1 P, me2 P, me3 P, me4 P, me5 P, me6 P, me7 P, me8 P, me9 P, me10 P] 11), #[]⟩
noncomputable def t2s (P : Params) (d31 : SV) : BT := (.node (boot_o_0 P) (.node (boot_o_1 P) (.node (ob3_1 P) (.node (boot_o_7 P) (.node (ob15_0 P) (.node (fs d31) .nil .nil) .nil) (.node (ob23_0 P) .nil .nil)) (.node (ob11_0 P) (.node (ob19_0 P) .nil .nil) (.node (fo (d27 P)) .nil .nil))) (.node (boot_o_5 P) (.node (boot_o_9 P) (.node (ob17_0 P) .nil .nil) (.node (ob25_0 P) .nil .nil)) (.node (ob13_0 P) (.node (ob21_0 P) .nil .nil) (.node (ob29_0 P) .nil .nil)))) (.node (boot_o_2 P) (.node (boot_o_4 P) (.node (boot_o_8 P) (.node (ob16_0 P) .nil .nil) (.node (ob24_0 P) .nil .nil)) (.node (ob12_1 P) (.node (ob20_0 P) .nil .nil) (.node (ob28_1 P) .nil .nil))) (.node (boot_o_6 P) (.node (boot_o_10 P) (.node (ob18_0 P) .nil .nil) (.node (ob26_0 P) .nil .nil)) (.node (ob14_0 P) (.node (fo (d22 P 32)) .nil .nil) (.node (ob30_0 P) .nil .nil)))))
noncomputable def t2a (P : Params) (d31 : SV) (d32 : SV) : BT := (.node (boot_o_0 P) (.node (boot_o_1 P) (.node (ob3_1 P) (.node (boot_o_7 P) (.node (ob15_0 P) (.node (fs d31) .nil .nil) .nil) (.node (ob23_0 P) .nil .nil)) (.node (ob11_0 P) (.node (ob19_0 P) .nil .nil) (.node (fo (d27 P)) .nil .nil))) (.node (boot_o_5 P) (.node (boot_o_9 P) (.node (ob17_0 P) (.node (ob33_0 P) .nil .nil) .nil) (.node (ob25_0 P) .nil .nil)) (.node (ob13_0 P) (.node (ob21_0 P) .nil .nil) (.node (ob29_0 P) .nil .nil)))) (.node (boot_o_2 P) (.node (boot_o_4 P) (.node (boot_o_8 P) (.node (ob16_0 P) (.node (fs d32) .nil .nil) .nil) (.node (ob24_0 P) .nil .nil)) (.node (ob12_1 P) (.node (ob20_0 P) .nil .nil) (.node (ob28_1 P) .nil .nil))) (.node (boot_o_6 P) (.node (boot_o_10 P) (.node (ob18_0 P) .nil .nil) (.node (ob26_0 P) .nil .nil)) (.node (ob14_0 P) (.node (fo (d22 P 32)) .nil .nil) (.node (ob30_0 P) .nil .nil)))))
noncomputable def t2b (P : Params) (d31 : SV) (d32 : SV) : BT := (.node (boot_o_0 P) (.node (boot_o_1 P) (.node (ob3_1 P) (.node (boot_o_7 P) (.node (ob15_0 P) (.node (fs d31) .nil .nil) .nil) (.node (ob23_0 P) .nil .nil)) (.node (ob11_0 P) (.node (ob19_0 P) .nil .nil) (.node (fo (d27 P)) .nil .nil))) (.node (boot_o_5 P) (.node (boot_o_9 P) (.node (ob17_0 P) (.node (ob33_0 P) .nil .nil) .nil) (.node (ob25_0 P) .nil .nil)) (.node (ob13_0 P) (.node (ob21_0 P) .nil .nil) (.node (ob29_0 P) .nil .nil)))) (.node (boot_o_2 P) (.node (boot_o_4 P) (.node (boot_o_8 P) (.node (ob16_0 P) (.node (fs d32) .nil .nil) .nil) (.node (ob24_0 P) .nil .nil)) (.node (ob12_1 P) (.node (ob20_0 P) .nil .nil) (.node (ob28_1 P) .nil .nil))) (.node (boot_o_6 P) (.node (boot_o_10 P) (.node (ob18_0 P) .nil .nil) (.node (ob26_0 P) .nil .nil)) (.node (ob14_0 P) (.node (fo (d22 P 32)) .nil .nil) (.node (ob30_0 P) .nil .nil)))))
noncomputable def t2c (P : Params) (d31 : SV) (d32 : SV) : BT := (.node (boot_o_0 P) (.node (boot_o_1 P) (.node (ob3_1 P) (.node (boot_o_7 P) (.node (ob15_0 P) (.node (fs d31) .nil .nil) .nil) (.node (ob23_0 P) .nil .nil)) (.node (ob11_0 P) (.node (ob19_0 P) (.node (ob35_0 P) .nil .nil) .nil) (.node (fo (d27 P)) .nil .nil))) (.node (boot_o_5 P) (.node (boot_o_9 P) (.node (ob17_0 P) (.node (ob33_1 P) .nil .nil) .nil) (.node (ob25_0 P) .nil .nil)) (.node (ob13_0 P) (.node (ob21_0 P) .nil .nil) (.node (ob29_0 P) .nil .nil)))) (.node (boot_o_2 P) (.node (boot_o_4 P) (.node (boot_o_8 P) (.node (ob16_0 P) (.node (fs d32) .nil .nil) .nil) (.node (ob24_0 P) .nil .nil)) (.node (ob12_1 P) (.node (ob20_0 P) .nil .nil) (.node (ob28_1 P) .nil .nil))) (.node (boot_o_6 P) (.node (boot_o_10 P) (.node (ob18_0 P) (.node (ob34_0 P) .nil .nil) .nil) (.node (ob26_0 P) .nil .nil)) (.node (ob14_0 P) (.node (fo (d22 P 32)) .nil .nil) (.node (ob30_0 P) .nil .nil)))))
noncomputable def t2d (P : Params) (d31 : SV) (d32 : SV) (d36 : SV) : BT := (.node (boot_o_0 P) (.node (boot_o_1 P) (.node (ob3_1 P) (.node (boot_o_7 P) (.node (ob15_0 P) (.node (fs d31) .nil .nil) .nil) (.node (ob23_0 P) .nil .nil)) (.node (ob11_0 P) (.node (ob19_0 P) (.node (ob35_0 P) .nil .nil) .nil) (.node (fo (d27 P)) .nil .nil))) (.node (boot_o_5 P) (.node (boot_o_9 P) (.node (ob17_0 P) (.node (ob33_1 P) .nil .nil) .nil) (.node (ob25_0 P) .nil .nil)) (.node (ob13_0 P) (.node (ob21_0 P) .nil .nil) (.node (ob29_0 P) .nil .nil)))) (.node (boot_o_2 P) (.node (boot_o_4 P) (.node (boot_o_8 P) (.node (ob16_0 P) (.node (fs d32) .nil .nil) .nil) (.node (ob24_0 P) .nil .nil)) (.node (ob12_1 P) (.node (ob20_0 P) (.node (fs d36) .nil .nil) .nil) (.node (ob28_1 P) .nil .nil))) (.node (boot_o_6 P) (.node (boot_o_10 P) (.node (ob18_0 P) (.node (ob34_0 P) .nil .nil) .nil) (.node (ob26_0 P) .nil .nil)) (.node (ob14_0 P) (.node (fo (d22 P 32)) .nil .nil) (.node (ob30_0 P) .nil .nil)))))
noncomputable def t2e (P : Params) (d31 : SV) (d32 : SV) (d36 : SV) : BT := (.node (boot_o_0 P) (.node (boot_o_1 P) (.node (ob3_2 P) (.node (boot_o_7 P) (.node (ob15_0 P) (.node (fs d31) .nil .nil) .nil) (.node (ob23_0 P) .nil .nil)) (.node (ob11_0 P) (.node (ob19_0 P) (.node (ob35_0 P) .nil .nil) .nil) (.node (fo (d27 P)) .nil .nil))) (.node (boot_o_5 P) (.node (boot_o_9 P) (.node (ob17_0 P) (.node (ob33_1 P) .nil .nil) .nil) (.node (ob25_0 P) .nil .nil)) (.node (ob13_0 P) (.node (ob21_0 P) .nil .nil) (.node (ob29_0 P) .nil .nil)))) (.node (boot_o_2 P) (.node (boot_o_4 P) (.node (boot_o_8 P) (.node (ob16_0 P) (.node (fs d32) .nil .nil) .nil) (.node (ob24_0 P) .nil .nil)) (.node (ob12_1 P) (.node (ob20_0 P) (.node (fs d36) .nil .nil) .nil) (.node (ob28_1 P) .nil .nil))) (.node (boot_o_6 P) (.node (boot_o_10 P) (.node (ob18_0 P) (.node (ob34_0 P) .nil .nil) .nil) (.node (ob26_0 P) .nil .nil)) (.node (ob14_0 P) (.node (fo (d22 P 32)) .nil .nil) (.node (ob30_0 P) .nil .nil)))))
noncomputable def sf_s2a (k0 k1 k2 : Result → Sem Fin) : List Frame := [.ret (k0) Option.none false [(Value.ref 32)] (Code.builtin "frozenset.__new__" ⟨[(Value.type "frozenset"), (Value.str (Str.mk #[9]) 333)], []⟩) ⟨3, 39, 3, 54⟩ [(Value.ref 32), (Value.ref 33)],
  .ret (k1) Option.none false [] (Code.builtin "type.__call__" ⟨[(Value.type "frozenset"), (Value.str (Str.mk #[9]) 333)], []⟩) ⟨3, 39, 3, 54⟩ [(Value.builtin "frozenset.__new__"), (Value.type "frozenset"), (Value.str (Str.mk #[9]) 333), (Value.builtin "frozenset.__new__"), (Value.type "frozenset"), (Value.str (Str.mk #[9]) 333)],
  .ret (k2) Option.none false [(Value.ref 31)] cT ⟨3, 39, 3, 54⟩ [(Value.type "frozenset"), (Value.str (Str.mk #[9]) 333)], topFrame qT]
noncomputable def run_s2a (w : World) (os : OsState) (d31 : SV) : Option (SharedT × Thread) := segGoT treeTable prg w 11 ANN 1 31 ⟨t2s w.params d31, 32, {}, #[.finished], {}, 333, os⟩ (piecesOf [stAt 2] envT cT ⟨2, 0, 2, 10⟩ BT0)
noncomputable def ev_s2a (w : World) (os : OsState) (d31 : SV) : List Frame := match run_s2a w os d31 with
  | some (_, t) => t.stack
  | none => []
noncomputable abbrev st_s2a (w : World) (os : OsState) (d31 : SV) : List Frame := sf_s2a (kOf 0 (ev_s2a w os d31)) (kOf 1 (ev_s2a w os d31)) (kOf 2 (ev_s2a w os d31))
noncomputable def KP_s2a (w : World) : Prop := ∀ (os : OsState) (d31 : SV), run_s2a w os d31 = some (⟨t2a w.params d31 (svF w.params), 34, {}, #[.finished], {}, 335, os⟩, ⟨addV 32 ((Code.builtin "set.update.loop" ⟨[(Value.ref 32), (Value.ref 33)], []⟩)) (.str ⟨#[9]⟩ 334), (Code.builtin "set.update.loop" ⟨[(Value.ref 32), (Value.ref 33)], []⟩), ⟨3, 39, 3, 54⟩, st_s2a w os d31⟩)
noncomputable def sf_s2b (k0 : Result → Sem Fin) : List Frame := [.ret (k0) Option.none false [(Value.ref 31), (Value.ref 32), (Value.ref 31), (Value.ref 32), (Value.ref 31), (Value.ref 32)] cT ⟨3, 26, 3, 54⟩ [(Value.builtin "frozenset.__sub__"), (Value.ref 31), (Value.ref 32)], topFrame qT]
noncomputable def run_s2b (w : World) (os : OsState) (d31 : SV) (d32 : SV) : Option (SharedT × Thread) := segGoT treeTable prg w 11 ANN 1 34 ⟨t2b w.params d31 d32, 34, {}, #[.finished], {}, 336, os⟩ ⟨.pure (.again ((Code.builtin "set.update.loop" ⟨[(Value.ref 32), (Value.ref 33)], []⟩))), (Code.builtin "set.update.loop" ⟨[(Value.ref 32), (Value.ref 33)], []⟩), ⟨3, 39, 3, 54⟩, st_s2a w os d31⟩
noncomputable def ev_s2b (w : World) (os : OsState) (d31 : SV) (d32 : SV) : List Frame := match run_s2b w os d31 d32 with
  | some (_, t) => t.stack
  | none => []
noncomputable abbrev st_s2b (w : World) (os : OsState) (d31 : SV) (d32 : SV) : List Frame := sf_s2b (kOf 0 (ev_s2b w os d31 d32))
noncomputable def KP_s2b (w : World) : Prop := ∀ (os : OsState) (d31 : SV) (d32 : SV), run_s2b w os d31 d32 = some (⟨t2c w.params d31 d32, 36, {}, #[.finished], {}, 336, os⟩, ⟨denote treeTable ((Code.builtin "frozenset.__sub__" ⟨[(Value.ref 31), (Value.ref 32)], []⟩)), (Code.builtin "frozenset.__sub__" ⟨[(Value.ref 31), (Value.ref 32)], []⟩), ⟨3, 26, 3, 54⟩, st_s2b w os d31 d32⟩)
noncomputable def KP_s2c (w : World) : Prop := ∀ (os : OsState) (d31 : SV) (d32 : SV) (d36 : SV), segRunT treeTable prg w 11 ANN 1 10 ⟨t2d w.params d31 d32 d36, 37, {}, #[.finished], {}, 336, os⟩ ⟨.pure (.done (.ret (.ref 36))), (Code.builtin "frozenset.__sub__" ⟨[(Value.ref 31), (Value.ref 32)], []⟩), ⟨3, 26, 3, 54⟩, st_s2b w os d31 d32⟩ = some (.next, ⟨t2e w.params d31 d32 d36, 37, {}, #[.finished], {}, 337, os⟩, cT, ⟨3, 0, 3, 23⟩)
theorem kk_H16 (w : World) : (KP_s2a (w.withFollow "special-get-raises" false) ∧ KP_s2a (w.withFollow "special-get-raises" true)) ∧ (KP_s2b (w.withFollow "special-get-raises" false) ∧ KP_s2b (w.withFollow "special-get-raises" true)) ∧ (KP_s2c (w.withFollow "special-get-raises" false) ∧ KP_s2c (w.withFollow "special-get-raises" true)) := by
  refine ⟨⟨?_, ?_⟩, ⟨?_, ?_⟩, ⟨?_, ?_⟩⟩
  · unfold KP_s2a; intro os d31; kernel_rfl
  · unfold KP_s2a; intro os d31; kernel_rfl
  · unfold KP_s2b; intro os d31 d32; kernel_rfl
  · unfold KP_s2b; intro os d31 d32; kernel_rfl
  · unfold KP_s2c; intro os d31 d32 d36; kernel_rfl
  · unfold KP_s2c; intro os d31 d32 d36; kernel_rfl
theorem k_s2a (w : World) : KP_s2a w := byRow2 "special-get-raises" (fun w => (kk_H16 w).1.1) (fun w => (kk_H16 w).1.2) w
theorem k_s2b (w : World) : KP_s2b w := byRow2 "special-get-raises" (fun w => (kk_H16 w).2.1.1) (fun w => (kk_H16 w).2.1.2) w
theorem k_s2c (w : World) : KP_s2c w := byRow2 "special-get-raises" (fun w => (kk_H16 w).2.2.1) (fun w => (kk_H16 w).2.2.2) w
end
end Mine
end
section
open PySem PySem.W PyProof.Rows PySem.Calls
set_option maxRecDepth 100000
namespace Mine
noncomputable section
noncomputable def me11 (P : Params) : DictEntry := ⟨PyData.keyHash P (Str.ofString "ILLEGAL_COMMENT_CHARS"), (Value.str (Str.ofString "ILLEGAL_COMMENT_CHARS") 337), (Value.ref 36)⟩
noncomputable def ob3_3 (P : Params) : Obj := ⟨(Value.type "dict"), Option.none, (.dict #[me0 P, me1 P, me2 P, me3 P, me4 P, me5 P, me6 P, me7 P, me8 P, me9 P, me10 P, me11 P] 12), #[]⟩
noncomputable def ob38_0 (P : Params) : Obj := ⟨(Value.type "str_ascii_iterator"), Option.none, (.fields #[(Value.str (Str.mk #[32, 9]) 338), (Value.int (1) 0)]), #[]⟩
noncomputable def ob38_1 (P : Params) : Obj := ⟨(Value.type "str_ascii_iterator"), Option.none, (.fields #[(Value.str (Str.mk #[32, 9]) 338), (Value.int (2) 0)]), #[]⟩
noncomputable def me12 (P : Params) : DictEntry := ⟨PyData.keyHash P (Str.ofString "TOML_WS"), (Value.str (Str.ofString "TOML_WS") 343), (Value.ref 37)⟩
noncomputable def ob3_4 (P : Params) : Obj := ⟨(Value.type "dict"), Option.none, (.dict #[me0 P, me1 P, me2 P, me3 P, me4 P, me5 P, me6 P, me7 P, me8 P, me9 P, me10 P, me11 P, me12 P] 13), #[]⟩
noncomputable def ob39_0 (P : Params) : Obj := ⟨(Value.type "tuple"), Option.none, (.seq #[] 0), #[]⟩
noncomputable def ob40_0 (P : Params) : Obj := ⟨(Value.type "StopIteration"), Option.none, (.fields #[(Value.ref 39), Value.none, Value.none, Value.none, (Value.bool false), Value.none]), #[]⟩
noncomputable def ob38_2 (P : Params) : Obj := ⟨(Value.type "str_ascii_iterator"), Option.none, (.fields #[Value.none, (Value.int (2) 0)]), #[]⟩
noncomputable def t4s (P : Params)  : BT := (.node (boot_o_0 P) (.node (boot_o_1 P) (.node (ob3_3 P) (.node (boot_o_7 P) (.node (ob15_0 P) (.node (fo (d31 P)) .nil .nil) .nil) (.node (ob23_0 P) .nil .nil)) (.node (ob11_0 P) (.node (ob19_0 P) (.node (ob35_0 P) .nil .nil) .nil) (.node (fo (d27 P)) .nil .nil))) (.node (boot_o_5 P) (.node (boot_o_9 P) (.node (ob17_0 P) (.node (ob33_1 P) .nil .nil) .nil) (.node (ob25_0 P) .nil .nil)) (.node (ob13_0 P) (.node (ob21_0 P) .nil .nil) (.node (ob29_0 P) .nil .nil)))) (.node (boot_o_2 P) (.node (boot_o_4 P) (.node (boot_o_8 P) (.node (ob16_0 P) (.node (fo (d32 P)) .nil .nil) .nil) (.node (ob24_0 P) .nil .nil)) (.node (ob12_1 P) (.node (ob20_0 P) (.node (fo (d36 P)) .nil .nil) .nil) (.node (ob28_1 P) .nil .nil))) (.node (boot_o_6 P) (.node (boot_o_10 P) (.node (ob18_0 P) (.node (ob34_0 P) .nil .nil) .nil) (.node (ob26_0 P) .nil .nil)) (.node (ob14_0 P) (.node (fo (d22 P 32)) .nil .nil) (.node (ob30_0 P) .nil .nil)))))
noncomputable def t4a (P : Params) (d37 : SV) : BT := (.node (boot_o_0 P) (.node (boot_o_1 P) (.node (ob3_3 P) (.node (boot_o_7 P) (.node (ob15_0 P) (.node (fo (d31 P)) .nil .nil) .nil) (.node (ob23_0 P) .nil .nil)) (.node (ob11_0 P) (.node (ob19_0 P) (.node (ob35_0 P) .nil .nil) .nil) (.node (fo (d27 P)) .nil .nil))) (.node (boot_o_5 P) (.node (boot_o_9 P) (.node (ob17_0 P) (.node (ob33_1 P) .nil .nil) .nil) (.node (ob25_0 P) .nil .nil)) (.node (ob13_0 P) (.node (ob21_0 P) (.node (fs d37) .nil .nil) .nil) (.node (ob29_0 P) .nil .nil)))) (.node (boot_o_2 P) (.node (boot_o_4 P) (.node (boot_o_8 P) (.node (ob16_0 P) (.node (fo (d32 P)) .nil .nil) .nil) (.node (ob24_0 P) .nil .nil)) (.node (ob12_1 P) (.node (ob20_0 P) (.node (fo (d36 P)) .nil .nil) .nil) (.node (ob28_1 P) .nil .nil))) (.node (boot_o_6 P) (.node (boot_o_10 P) (.node (ob18_0 P) (.node (ob34_0 P) .nil .nil) .nil) (.node (ob26_0 P) .nil .nil)) (.node (ob14_0 P) (.node (fo (d22 P 32)) (.node (ob38_0 P) .nil .nil) .nil) (.node (ob30_0 P) .nil .nil)))))
noncomputable def t4b (P : Params) (d37 : SV) : BT := (.node (boot_o_0 P) (.node (boot_o_1 P) (.node (ob3_3 P) (.node (boot_o_7 P) (.node (ob15_0 P) (.node (fo (d31 P)) .nil .nil) .nil) (.node (ob23_0 P) .nil .nil)) (.node (ob11_0 P) (.node (ob19_0 P) (.node (ob35_0 P) .nil .nil) .nil) (.node (fo (d27 P)) .nil .nil))) (.node (boot_o_5 P) (.node (boot_o_9 P) (.node (ob17_0 P) (.node (ob33_1 P) .nil .nil) .nil) (.node (ob25_0 P) .nil .nil)) (.node (ob13_0 P) (.node (ob21_0 P) (.node (fs d37) .nil .nil) .nil) (.node (ob29_0 P) .nil .nil)))) (.node (boot_o_2 P) (.node (boot_o_4 P) (.node (boot_o_8 P) (.node (ob16_0 P) (.node (fo (d32 P)) .nil .nil) .nil) (.node (ob24_0 P) .nil .nil)) (.node (ob12_1 P) (.node (ob20_0 P) (.node (fo (d36 P)) .nil .nil) .nil) (.node (ob28_1 P) .nil .nil))) (.node (boot_o_6 P) (.node (boot_o_10 P) (.node (ob18_0 P) (.node (ob34_0 P) .nil .nil) .nil) (.node (ob26_0 P) .nil .nil)) (.node (ob14_0 P) (.node (fo (d22 P 32)) (.node (ob38_0 P) .nil .nil) .nil) (.node (ob30_0 P) .nil .nil)))))
noncomputable def t4c (P : Params) (d37 : SV) : BT := (.node (boot_o_0 P) (.node (boot_o_1 P) (.node (ob3_3 P) (.node (boot_o_7 P) (.node (ob15_0 P) (.node (fo (d31 P)) .nil .nil) .nil) (.node (ob23_0 P) .nil .nil)) (.node (ob11_0 P) (.node (ob19_0 P) (.node (ob35_0 P) .nil .nil) .nil) (.node (fo (d27 P)) .nil .nil))) (.node (boot_o_5 P) (.node (boot_o_9 P) (.node (ob17_0 P) (.node (ob33_1 P) .nil .nil) .nil) (.node (ob25_0 P) .nil .nil)) (.node (ob13_0 P) (.node (ob21_0 P) (.node (fs d37) .nil .nil) .nil) (.node (ob29_0 P) .nil .nil)))) (.node (boot_o_2 P) (.node (boot_o_4 P) (.node (boot_o_8 P) (.node (ob16_0 P) (.node (fo (d32 P)) .nil .nil) .nil) (.node (ob24_0 P) .nil .nil)) (.node (ob12_1 P) (.node (ob20_0 P) (.node (fo (d36 P)) .nil .nil) .nil) (.node (ob28_1 P) .nil .nil))) (.node (boot_o_6 P) (.node (boot_o_10 P) (.node (ob18_0 P) (.node (ob34_0 P) .nil .nil) .nil) (.node (ob26_0 P) .nil .nil)) (.node (ob14_0 P) (.node (fo (d22 P 32)) (.node (ob38_1 P) .nil .nil) .nil) (.node (ob30_0 P) .nil .nil)))))
noncomputable def t4d (P : Params) (d37 : SV) : BT := (.node (boot_o_0 P) (.node (boot_o_1 P) (.node (ob3_3 P) (.node (boot_o_7 P) (.node (ob15_0 P) (.node (fo (d31 P)) .nil .nil) .nil) (.node (ob23_0 P) .nil .nil)) (.node (ob11_0 P) (.node (ob19_0 P) (.node (ob35_0 P) .nil .nil) .nil) (.node (fo (d27 P)) .nil .nil))) (.node (boot_o_5 P) (.node (boot_o_9 P) (.node (ob17_0 P) (.node (ob33_1 P) .nil .nil) .nil) (.node (ob25_0 P) .nil .nil)) (.node (ob13_0 P) (.node (ob21_0 P) (.node (fs d37) .nil .nil) .nil) (.node (ob29_0 P) .nil .nil)))) (.node (boot_o_2 P) (.node (boot_o_4 P) (.node (boot_o_8 P) (.node (ob16_0 P) (.node (fo (d32 P)) .nil .nil) .nil) (.node (ob24_0 P) .nil .nil)) (.node (ob12_1 P) (.node (ob20_0 P) (.node (fo (d36 P)) .nil .nil) .nil) (.node (ob28_1 P) .nil .nil))) (.node (boot_o_6 P) (.node (boot_o_10 P) (.node (ob18_0 P) (.node (ob34_0 P) .nil .nil) .nil) (.node (ob26_0 P) .nil .nil)) (.node (ob14_0 P) (.node (fo (d22 P 32)) (.node (ob38_1 P) .nil .nil) .nil) (.node (ob30_0 P) .nil .nil)))))
noncomputable def t4e (P : Params) (d37 : SV) : BT := (.node (boot_o_0 P) (.node (boot_o_1 P) (.node (ob3_4 P) (.node (boot_o_7 P) (.node (ob15_0 P) (.node (fo (d31 P)) .nil .nil) .nil) (.node (ob23_0 P) (.node (ob39_0 P) .nil .nil) .nil)) (.node (ob11_0 P) (.node (ob19_0 P) (.node (ob35_0 P) .nil .nil) .nil) (.node (fo (d27 P)) .nil .nil))) (.node (boot_o_5 P) (.node (boot_o_9 P) (.node (ob17_0 P) (.node (ob33_1 P) .nil .nil) .nil) (.node (ob25_0 P) .nil .nil)) (.node (ob13_0 P) (.node (ob21_0 P) (.node (fs d37) .nil .nil) .nil) (.node (ob29_0 P) .nil .nil)))) (.node (boot_o_2 P) (.node (boot_o_4 P) (.node (boot_o_8 P) (.node (ob16_0 P) (.node (fo (d32 P)) .nil .nil) .nil) (.node (ob24_0 P) (.node (ob40_0 P) .nil .nil) .nil)) (.node (ob12_1 P) (.node (ob20_0 P) (.node (fo (d36 P)) .nil .nil) .nil) (.node (ob28_1 P) .nil .nil))) (.node (boot_o_6 P) (.node (boot_o_10 P) (.node (ob18_0 P) (.node (ob34_0 P) .nil .nil) .nil) (.node (ob26_0 P) .nil .nil)) (.node (ob14_0 P) (.node (fo (d22 P 32)) (.node (ob38_2 P) .nil .nil) .nil) (.node (ob30_0 P) .nil .nil)))))
noncomputable def tg_p4 (P : Params)  : BT := (.node (boot_o_0 P) (.node (boot_o_1 P) (.node (ob3_4 P) (.node (boot_o_7 P) (.node (ob15_0 P) (.node (fo (d31 P)) .nil .nil) .nil) (.node (ob23_0 P) (.node (ob39_0 P) .nil .nil) .nil)) (.node (ob11_0 P) (.node (ob19_0 P) (.node (ob35_0 P) .nil .nil) .nil) (.node (fo (d27 P)) .nil .nil))) (.node (boot_o_5 P) (.node (boot_o_9 P) (.node (ob17_0 P) (.node (ob33_1 P) .nil .nil) .nil) (.node (ob25_0 P) .nil .nil)) (.node (ob13_0 P) (.node (ob21_0 P) (.node (fo (d37 P)) .nil .nil) .nil) (.node (ob29_0 P) .nil .nil)))) (.node (boot_o_2 P) (.node (boot_o_4 P) (.node (boot_o_8 P) (.node (ob16_0 P) (.node (fo (d32 P)) .nil .nil) .nil) (.node (ob24_0 P) (.node (ob40_0 P) .nil .nil) .nil)) (.node (ob12_1 P) (.node (ob20_0 P) (.node (fo (d36 P)) .nil .nil) .nil) (.node (ob28_1 P) .nil .nil))) (.node (boot_o_6 P) (.node (boot_o_10 P) (.node (ob18_0 P) (.node (ob34_0 P) .nil .nil) .nil) (.node (ob26_0 P) .nil .nil)) (.node (ob14_0 P) (.node (fo (d22 P 32)) (.node (ob38_2 P) .nil .nil) .nil) (.node (ob30_0 P) .nil .nil)))))
noncomputable def sf_s4a (k0 k1 k2 : Result → Sem Fin) : List Frame := [.ret (k0) Option.none false [(Value.ref 37)] (Code.builtin "frozenset.__new__" ⟨[(Value.type "frozenset"), (Value.str (Str.mk #[32, 9]) 338)], []⟩) ⟨5, 10, 5, 26⟩ [(Value.ref 37), (Value.ref 38)],
  .ret (k1) Option.none false [] (Code.builtin "type.__call__" ⟨[(Value.type "frozenset"), (Value.str (Str.mk #[32, 9]) 338)], []⟩) ⟨5, 10, 5, 26⟩ [(Value.builtin "frozenset.__new__"), (Value.type "frozenset"), (Value.str (Str.mk #[32, 9]) 338), (Value.builtin "frozenset.__new__"), (Value.type "frozenset"), (Value.str (Str.mk #[32, 9]) 338)],
  .ret (k2) Option.none false [] cT ⟨5, 10, 5, 26⟩ [(Value.type "frozenset"), (Value.str (Str.mk #[32, 9]) 338)], topFrame qT]
noncomputable def run_s4a (w : World) (os : OsState)  : Option (SharedT × Thread) := segGoT treeTable prg w 11 ANN 1 29 ⟨t4s w.params, 37, {}, #[.finished], {}, 338, os⟩ (piecesOf [stAt 4] envT cT ⟨4, 0, 4, 21⟩ BT0)
noncomputable def ev_s4a (w : World) (os : OsState)  : List Frame := match run_s4a w os  with
  | some (_, t) => t.stack
  | none => []
noncomputable abbrev st_s4a (w : World) (os : OsState)  : List Frame := sf_s4a (kOf 0 (ev_s4a w os )) (kOf 1 (ev_s4a w os )) (kOf 2 (ev_s4a w os ))
noncomputable def KP_s4a (w : World) : Prop := ∀ (os : OsState) , run_s4a w os  = some (⟨t4a w.params (svF w.params), 39, {}, #[.finished], {}, 340, os⟩, ⟨addV 37 ((Code.builtin "set.update.loop" ⟨[(Value.ref 37), (Value.ref 38)], []⟩)) (.str ⟨#[32]⟩ 339), (Code.builtin "set.update.loop" ⟨[(Value.ref 37), (Value.ref 38)], []⟩), ⟨5, 10, 5, 26⟩, st_s4a w os ⟩)
noncomputable def sf_s4b (k0 k1 k2 : Result → Sem Fin) : List Frame := [.ret (k0) Option.none false [(Value.ref 37)] (Code.builtin "frozenset.__new__" ⟨[(Value.type "frozenset"), (Value.str (Str.mk #[32, 9]) 338)], []⟩) ⟨5, 10, 5, 26⟩ [(Value.ref 37), (Value.ref 38)],
  .ret (k1) Option.none false [] (Code.builtin "type.__call__" ⟨[(Value.type "frozenset"), (Value.str (Str.mk #[32, 9]) 338)], []⟩) ⟨5, 10, 5, 26⟩ [(Value.builtin "frozenset.__new__"), (Value.type "frozenset"), (Value.str (Str.mk #[32, 9]) 338), (Value.builtin "frozenset.__new__"), (Value.type "frozenset"), (Value.str (Str.mk #[32, 9]) 338)],
  .ret (k2) Option.none false [] cT ⟨5, 10, 5, 26⟩ [(Value.type "frozenset"), (Value.str (Str.mk #[32, 9]) 338)], topFrame qT]
noncomputable def run_s4b (w : World) (os : OsState) (d37 : SV) : Option (SharedT × Thread) := segGoT treeTable prg w 11 ANN 1 11 ⟨t4b w.params d37, 39, {}, #[.finished], {}, 341, os⟩ ⟨.pure (.again ((Code.builtin "set.update.loop" ⟨[(Value.ref 37), (Value.ref 38)], []⟩))), (Code.builtin "set.update.loop" ⟨[(Value.ref 37), (Value.ref 38)], []⟩), ⟨5, 10, 5, 26⟩, st_s4a w os⟩
noncomputable def ev_s4b (w : World) (os : OsState) (d37 : SV) : List Frame := match run_s4b w os d37 with
  | some (_, t) => t.stack
  | none => []
noncomputable abbrev st_s4b (w : World) (os : OsState) (d37 : SV) : List Frame := sf_s4b (kOf 0 (ev_s4b w os d37)) (kOf 1 (ev_s4b w os d37)) (kOf 2 (ev_s4b w os d37))
noncomputable def KP_s4b (w : World) : Prop := ∀ (os : OsState) (d37 : SV), run_s4b w os d37 = some (⟨t4c w.params d37, 39, {}, #[.finished], {}, 342, os⟩, ⟨addV 37 ((Code.builtin "set.update.loop" ⟨[(Value.ref 37), (Value.ref 38)], []⟩)) (.str ⟨#[9]⟩ 341), (Code.builtin "set.update.loop" ⟨[(Value.ref 37), (Value.ref 38)], []⟩), ⟨5, 10, 5, 26⟩, st_s4b w os d37⟩)
noncomputable def KP_s4c (w : World) : Prop := ∀ (os : OsState) (da : SV) (d37 : SV), segRunT treeTable prg w 11 ANN 1 35 ⟨t4d w.params d37, 39, {}, #[.finished], {}, 343, os⟩ ⟨.pure (.again ((Code.builtin "set.update.loop" ⟨[(Value.ref 37), (Value.ref 38)], []⟩))), (Code.builtin "set.update.loop" ⟨[(Value.ref 37), (Value.ref 38)], []⟩), ⟨5, 10, 5, 26⟩, st_s4b w os da⟩ = some (.next, ⟨t4e w.params d37, 41, {}, #[.finished], {}, 344, os⟩, cT, ⟨5, 0, 5, 7⟩)
theorem kk_H17 (w : World) : (KP_s4a (w.withFollow "special-get-raises" false) ∧ KP_s4a (w.withFollow "special-get-raises" true)) ∧ (KP_s4b (w.withFollow "special-get-raises" false) ∧ KP_s4b (w.withFollow "special-get-raises" true)) ∧ (KP_s4c (w.withFollow "special-get-raises" false) ∧ KP_s4c (w.withFollow "special-get-raises" true)) := by
  refine ⟨⟨?_, ?_⟩, ⟨?_, ?_⟩, ⟨?_, ?_⟩⟩
  · unfold KP_s4a; intro os; kernel_rfl
  · unfold KP_s4a; intro os; kernel_rfl
  · unfold KP_s4b; intro os d37; kernel_rfl
  · unfold KP_s4b; intro os d37; kernel_rfl
  · unfold KP_s4c; intro os da d37; kernel_rfl
  · unfold KP_s4c; intro os da d37; kernel_rfl
theorem k_s4a (w : World) : KP_s4a w := byRow2 "special-get-raises" (fun w => (kk_H17 w).1.1) (fun w => (kk_H17 w).1.2) w
theorem k_s4b (w : World) : KP_s4b w := byRow2 "special-get-raises" (fun w => (kk_H17 w).2.1.1) (fun w => (kk_H17 w).2.1.2) w
theorem k_s4c (w : World) : KP_s4c w := byRow2 "special-get-raises" (fun w => (kk_H17 w).2.2.1) (fun w => (kk_H17 w).2.2.2) w
end
end Mine
end
section
open PySem PySem.W PyProof.Rows PySem.Calls
set_option maxRecDepth 100000
namespace Mine
noncomputable section
noncomputable def ob42_0 (P : Params) : Obj := ⟨(Value.type "str_ascii_iterator"), Option.none, (.fields #[(Value.str (Str.mk #[10]) 344), (Value.int (1) 0)]), #[]⟩
noncomputable def ob43_0 (P : Params) : Obj := ⟨(Value.type "tuple"), Option.none, (.seq #[] 0), #[]⟩
noncomputable def ob44_0 (P : Params) : Obj := ⟨(Value.type "StopIteration"), Option.none, (.fields #[(Value.ref 43), Value.none, Value.none, Value.none, (Value.bool false), Value.none]), #[]⟩
noncomputable def ob42_1 (P : Params) : Obj := ⟨(Value.type "str_ascii_iterator"), Option.none, (.fields #[Value.none, (Value.int (1) 0)]), #[]⟩
noncomputable def me13 (P : Params) : DictEntry := ⟨PyData.keyHash P (Str.ofString "TOML_WS_AND_NEWLINE"), (Value.str (Str.ofString "TOML_WS_AND_NEWLINE") 347), (Value.ref 45)⟩
noncomputable def ob3_5 (P : Params) : Obj := ⟨(Value.type "dict"), Option.none, (.dict #[me0 P, me1 P, me2 P, me3 P, me4 P, me5 P, me6 P, me7 P, me8 P, me9 P, me10 P, me11 P, me12 P, me13 P] 14), #[]⟩
noncomputable def t5s (P : Params) (d37 : SV) : BT := (.node (boot_o_0 P) (.node (boot_o_1 P) (.node (ob3_4 P) (.node (boot_o_7 P) (.node (ob15_0 P) (.node (fo (d31 P)) .nil .nil) .nil) (.node (ob23_0 P) (.node (ob39_0 P) .nil .nil) .nil)) (.node (ob11_0 P) (.node (ob19_0 P) (.node (ob35_0 P) .nil .nil) .nil) (.node (fo (d27 P)) .nil .nil))) (.node (boot_o_5 P) (.node (boot_o_9 P) (.node (ob17_0 P) (.node (ob33_1 P) .nil .nil) .nil) (.node (ob25_0 P) .nil .nil)) (.node (ob13_0 P) (.node (ob21_0 P) (.node (fs d37) .nil .nil) .nil) (.node (ob29_0 P) .nil .nil)))) (.node (boot_o_2 P) (.node (boot_o_4 P) (.node (boot_o_8 P) (.node (ob16_0 P) (.node (fo (d32 P)) .nil .nil) .nil) (.node (ob24_0 P) (.node (ob40_0 P) .nil .nil) .nil)) (.node (ob12_1 P) (.node (ob20_0 P) (.node (fo (d36 P)) .nil .nil) .nil) (.node (ob28_1 P) .nil .nil))) (.node (boot_o_6 P) (.node (boot_o_10 P) (.node (ob18_0 P) (.node (ob34_0 P) .nil .nil) .nil) (.node (ob26_0 P) .nil .nil)) (.node (ob14_0 P) (.node (fo (d22 P 32)) (.node (ob38_2 P) .nil .nil) .nil) (.node (ob30_0 P) .nil .nil)))))
noncomputable def t5a (P : Params) (d37 : SV) (d41 : SV) : BT := (.node (boot_o_0 P) (.node (boot_o_1 P) (.node (ob3_4 P) (.node (boot_o_7 P) (.node (ob15_0 P) (.node (fo (d31 P)) .nil .nil) .nil) (.node (ob23_0 P) (.node (ob39_0 P) .nil .nil) .nil)) (.node (ob11_0 P) (.node (ob19_0 P) (.node (ob35_0 P) .nil .nil) .nil) (.node (fo (d27 P)) .nil .nil))) (.node (boot_o_5 P) (.node (boot_o_9 P) (.node (ob17_0 P) (.node (ob33_1 P) .nil .nil) .nil) (.node (ob25_0 P) (.node (fs d41) .nil .nil) .nil)) (.node (ob13_0 P) (.node (ob21_0 P) (.node (fs d37) .nil .nil) .nil) (.node (ob29_0 P) .nil .nil)))) (.node (boot_o_2 P) (.node (boot_o_4 P) (.node (boot_o_8 P) (.node (ob16_0 P) (.node (fo (d32 P)) .nil .nil) .nil) (.node (ob24_0 P) (.node (ob40_0 P) .nil .nil) .nil)) (.node (ob12_1 P) (.node (ob20_0 P) (.node (fo (d36 P)) .nil .nil) .nil) (.node (ob28_1 P) .nil .nil))) (.node (boot_o_6 P) (.node (boot_o_10 P) (.node (ob18_0 P) (.node (ob34_0 P) .nil .nil) .nil) (.node (ob26_0 P) (.node (ob42_0 P) .nil .nil) .nil)) (.node (ob14_0 P) (.node (fo (d22 P 32)) (.node (ob38_2 P) .nil .nil) .nil) (.node (ob30_0 P) .nil .nil)))))
noncomputable def t5b (P : Params) (d37 : SV) (d41 : SV) : BT := (.node (boot_o_0 P) (.node (boot_o_1 P) (.node (ob3_4 P) (.node (boot_o_7 P) (.node (ob15_0 P) (.node (fo (d31 P)) .nil .nil) .nil) (.node (ob23_0 P) (.node (ob39_0 P) .nil .nil) .nil)) (.node (ob11_0 P) (.node (ob19_0 P) (.node (ob35_0 P) .nil .nil) .nil) (.node (fo (d27 P)) .nil .nil))) (.node (boot_o_5 P) (.node (boot_o_9 P) (.node (ob17_0 P) (.node (ob33_1 P) .nil .nil) .nil) (.node (ob25_0 P) (.node (fs d41) .nil .nil) .nil)) (.node (ob13_0 P) (.node (ob21_0 P) (.node (fs d37) .nil .nil) .nil) (.node (ob29_0 P) .nil .nil)))) (.node (boot_o_2 P) (.node (boot_o_4 P) (.node (boot_o_8 P) (.node (ob16_0 P) (.node (fo (d32 P)) .nil .nil) .nil) (.node (ob24_0 P) (.node (ob40_0 P) .nil .nil) .nil)) (.node (ob12_1 P) (.node (ob20_0 P) (.node (fo (d36 P)) .nil .nil) .nil) (.node (ob28_1 P) .nil .nil))) (.node (boot_o_6 P) (.node (boot_o_10 P) (.node (ob18_0 P) (.node (ob34_0 P) .nil .nil) .nil) (.node (ob26_0 P) (.node (ob42_0 P) .nil .nil) .nil)) (.node (ob14_0 P) (.node (fo (d22 P 32)) (.node (ob38_2 P) .nil .nil) .nil) (.node (ob30_0 P) .nil .nil)))))
noncomputable def t5c (P : Params) (d37 : SV) (d41 : SV) : BT := (.node (boot_o_0 P) (.node (boot_o_1 P) (.node (ob3_4 P) (.node (boot_o_7 P) (.node (ob15_0 P) (.node (fo (d31 P)) .nil .nil) .nil) (.node (ob23_0 P) (.node (ob39_0 P) .nil .nil) .nil)) (.node (ob11_0 P) (.node (ob19_0 P) (.node (ob35_0 P) .nil .nil) .nil) (.node (fo (d27 P)) (.node (ob43_0 P) .nil .nil) .nil))) (.node (boot_o_5 P) (.node (boot_o_9 P) (.node (ob17_0 P) (.node (ob33_1 P) .nil .nil) .nil) (.node (ob25_0 P) (.node (fs d41) .nil .nil) .nil)) (.node (ob13_0 P) (.node (ob21_0 P) (.node (fs d37) .nil .nil) .nil) (.node (ob29_0 P) .nil .nil)))) (.node (boot_o_2 P) (.node (boot_o_4 P) (.node (boot_o_8 P) (.node (ob16_0 P) (.node (fo (d32 P)) .nil .nil) .nil) (.node (ob24_0 P) (.node (ob40_0 P) .nil .nil) .nil)) (.node (ob12_1 P) (.node (ob20_0 P) (.node (fo (d36 P)) .nil .nil) .nil) (.node (ob28_1 P) (.node (ob44_0 P) .nil .nil) .nil))) (.node (boot_o_6 P) (.node (boot_o_10 P) (.node (ob18_0 P) (.node (ob34_0 P) .nil .nil) .nil) (.node (ob26_0 P) (.node (ob42_1 P) .nil .nil) .nil)) (.node (ob14_0 P) (.node (fo (d22 P 32)) (.node (ob38_2 P) .nil .nil) .nil) (.node (ob30_0 P) .nil .nil)))))
noncomputable def t5d (P : Params) (d37 : SV) (d41 : SV) (d45 : SV) : BT := (.node (boot_o_0 P) (.node (boot_o_1 P) (.node (ob3_4 P) (.node (boot_o_7 P) (.node (ob15_0 P) (.node (fo (d31 P)) .nil .nil) .nil) (.node (ob23_0 P) (.node (ob39_0 P) .nil .nil) .nil)) (.node (ob11_0 P) (.node (ob19_0 P) (.node (ob35_0 P) .nil .nil) .nil) (.node (fo (d27 P)) (.node (ob43_0 P) .nil .nil) .nil))) (.node (boot_o_5 P) (.node (boot_o_9 P) (.node (ob17_0 P) (.node (ob33_1 P) .nil .nil) .nil) (.node (ob25_0 P) (.node (fs d41) .nil .nil) .nil)) (.node (ob13_0 P) (.node (ob21_0 P) (.node (fs d37) .nil .nil) .nil) (.node (ob29_0 P) (.node (fs d45) .nil .nil) .nil)))) (.node (boot_o_2 P) (.node (boot_o_4 P) (.node (boot_o_8 P) (.node (ob16_0 P) (.node (fo (d32 P)) .nil .nil) .nil) (.node (ob24_0 P) (.node (ob40_0 P) .nil .nil) .nil)) (.node (ob12_1 P) (.node (ob20_0 P) (.node (fo (d36 P)) .nil .nil) .nil) (.node (ob28_1 P) (.node (ob44_0 P) .nil .nil) .nil))) (.node (boot_o_6 P) (.node (boot_o_10 P) (.node (ob18_0 P) (.node (ob34_0 P) .nil .nil) .nil) (.node (ob26_0 P) (.node (ob42_1 P) .nil .nil) .nil)) (.node (ob14_0 P) (.node (fo (d22 P 32)) (.node (ob38_2 P) .nil .nil) .nil) (.node (ob30_0 P) .nil .nil)))))
noncomputable def t5e (P : Params) (d37 : SV) (d41 : SV) (d45 : SV) : BT := (.node (boot_o_0 P) (.node (boot_o_1 P) (.node (ob3_5 P) (.node (boot_o_7 P) (.node (ob15_0 P) (.node (fo (d31 P)) .nil .nil) .nil) (.node (ob23_0 P) (.node (ob39_0 P) .nil .nil) .nil)) (.node (ob11_0 P) (.node (ob19_0 P) (.node (ob35_0 P) .nil .nil) .nil) (.node (fo (d27 P)) (.node (ob43_0 P) .nil .nil) .nil))) (.node (boot_o_5 P) (.node (boot_o_9 P) (.node (ob17_0 P) (.node (ob33_1 P) .nil .nil) .nil) (.node (ob25_0 P) (.node (fs d41) .nil .nil) .nil)) (.node (ob13_0 P) (.node (ob21_0 P) (.node (fs d37) .nil .nil) .nil) (.node (ob29_0 P) (.node (fs d45) .nil .nil) .nil)))) (.node (boot_o_2 P) (.node (boot_o_4 P) (.node (boot_o_8 P) (.node (ob16_0 P) (.node (fo (d32 P)) .nil .nil) .nil) (.node (ob24_0 P) (.node (ob40_0 P) .nil .nil) .nil)) (.node (ob12_1 P) (.node (ob20_0 P) (.node (fo (d36 P)) .nil .nil) .nil) (.node (ob28_1 P) (.node (ob44_0 P) .nil .nil) .nil))) (.node (boot_o_6 P) (.node (boot_o_10 P) (.node (ob18_0 P) (.node (ob34_0 P) .nil .nil) .nil) (.node (ob26_0 P) (.node (ob42_1 P) .nil .nil) .nil)) (.node (ob14_0 P) (.node (fo (d22 P 32)) (.node (ob38_2 P) .nil .nil) .nil) (.node (ob30_0 P) .nil .nil)))))
noncomputable def sf_s5a (k0 k1 k2 : Result → Sem Fin) : List Frame := [.ret (k0) Option.none false [(Value.ref 41)] (Code.builtin "frozenset.__new__" ⟨[(Value.type "frozenset"), (Value.str (Str.mk #[10]) 344)], []⟩) ⟨6, 32, 6, 47⟩ [(Value.ref 41), (Value.ref 42)],
  .ret (k1) Option.none false [] (Code.builtin "type.__call__" ⟨[(Value.type "frozenset"), (Value.str (Str.mk #[10]) 344)], []⟩) ⟨6, 32, 6, 47⟩ [(Value.builtin "frozenset.__new__"), (Value.type "frozenset"), (Value.str (Str.mk #[10]) 344), (Value.builtin "frozenset.__new__"), (Value.type "frozenset"), (Value.str (Str.mk #[10]) 344)],
  .ret (k2) Option.none false [(Value.ref 37)] cT ⟨6, 32, 6, 47⟩ [(Value.type "frozenset"), (Value.str (Str.mk #[10]) 344)], topFrame qT]
noncomputable def run_s5a (w : World) (os : OsState) (d37 : SV) : Option (SharedT × Thread) := segGoT treeTable prg w 11 ANN 1 31 ⟨t5s w.params d37, 41, {}, #[.finished], {}, 344, os⟩ (piecesOf [stAt 5] envT cT ⟨5, 0, 5, 7⟩ BT0)
noncomputable def ev_s5a (w : World) (os : OsState) (d37 : SV) : List Frame := match run_s5a w os d37 with
  | some (_, t) => t.stack
  | none => []
noncomputable abbrev st_s5a (w : World) (os : OsState) (d37 : SV) : List Frame := sf_s5a (kOf 0 (ev_s5a w os d37)) (kOf 1 (ev_s5a w os d37)) (kOf 2 (ev_s5a w os d37))
noncomputable def KP_s5a (w : World) : Prop := ∀ (os : OsState) (d37 : SV), run_s5a w os d37 = some (⟨t5a w.params d37 (svF w.params), 43, {}, #[.finished], {}, 346, os⟩, ⟨addV 41 ((Code.builtin "set.update.loop" ⟨[(Value.ref 41), (Value.ref 42)], []⟩)) (.str ⟨#[10]⟩ 345), (Code.builtin "set.update.loop" ⟨[(Value.ref 41), (Value.ref 42)], []⟩), ⟨6, 32, 6, 47⟩, st_s5a w os d37⟩)
noncomputable def sf_s5b (k0 : Result → Sem Fin) : List Frame := [.ret (k0) Option.none false [(Value.ref 37), (Value.ref 41), (Value.ref 37), (Value.ref 41), (Value.ref 37), (Value.ref 41)] cT ⟨6, 22, 6, 47⟩ [(Value.builtin "frozenset.__or__"), (Value.ref 37), (Value.ref 41)], topFrame qT]
noncomputable def run_s5b (w : World) (os : OsState) (d37 : SV) (d41 : SV) : Option (SharedT × Thread) := segGoT treeTable prg w 11 ANN 1 34 ⟨t5b w.params d37 d41, 43, {}, #[.finished], {}, 347, os⟩ ⟨.pure (.again ((Code.builtin "set.update.loop" ⟨[(Value.ref 41), (Value.ref 42)], []⟩))), (Code.builtin "set.update.loop" ⟨[(Value.ref 41), (Value.ref 42)], []⟩), ⟨6, 32, 6, 47⟩, st_s5a w os d37⟩
noncomputable def ev_s5b (w : World) (os : OsState) (d37 : SV) (d41 : SV) : List Frame := match run_s5b w os d37 d41 with
  | some (_, t) => t.stack
  | none => []
noncomputable abbrev st_s5b (w : World) (os : OsState) (d37 : SV) (d41 : SV) : List Frame := sf_s5b (kOf 0 (ev_s5b w os d37 d41))
noncomputable def KP_s5b (w : World) : Prop := ∀ (os : OsState) (d37 : SV) (d41 : SV), run_s5b w os d37 d41 = some (⟨t5c w.params d37 d41, 45, {}, #[.finished], {}, 347, os⟩, ⟨denote treeTable ((Code.builtin "frozenset.__or__" ⟨[(Value.ref 37), (Value.ref 41)], []⟩)), (Code.builtin "frozenset.__or__" ⟨[(Value.ref 37), (Value.ref 41)], []⟩), ⟨6, 22, 6, 47⟩, st_s5b w os d37 d41⟩)
noncomputable def KP_s5c (w : World) : Prop := ∀ (os : OsState) (d37 : SV) (d41 : SV) (d45 : SV), segRunT treeTable prg w 11 ANN 1 10 ⟨t5d w.params d37 d41 d45, 46, {}, #[.finished], {}, 347, os⟩ ⟨.pure (.done (.ret (.ref 45))), (Code.builtin "frozenset.__or__" ⟨[(Value.ref 37), (Value.ref 41)], []⟩), ⟨6, 22, 6, 47⟩, st_s5b w os d37 d41⟩ = some (.next, ⟨t5e w.params d37 d41 d45, 46, {}, #[.finished], {}, 348, os⟩, cT, ⟨6, 0, 6, 19⟩)
theorem kk_H18 (w : World) : (KP_s5a (w.withFollow "special-get-raises" false) ∧ KP_s5a (w.withFollow "special-get-raises" true)) ∧ (KP_s5b (w.withFollow "special-get-raises" false) ∧ KP_s5b (w.withFollow "special-get-raises" true)) ∧ (KP_s5c (w.withFollow "special-get-raises" false) ∧ KP_s5c (w.withFollow "special-get-raises" true)) := by
  refine ⟨⟨?_, ?_⟩, ⟨?_, ?_⟩, ⟨?_, ?_⟩⟩
  · unfold KP_s5a; intro os d37; kernel_rfl
  · unfold KP_s5a; intro os d37; kernel_rfl
  · unfold KP_s5b; intro os d37 d41; kernel_rfl
  · unfold KP_s5b; intro os d37 d41; kernel_rfl
  · unfold KP_s5c; intro os d37 d41 d45; kernel_rfl
  · unfold KP_s5c; intro os d37 d41 d45; kernel_rfl
theorem k_s5a (w : World) : KP_s5a w := byRow2 "special-get-raises" (fun w => (kk_H18 w).1.1) (fun w => (kk_H18 w).1.2) w
theorem k_s5b (w : World) : KP_s5b w := byRow2 "special-get-raises" (fun w => (kk_H18 w).2.1.1) (fun w => (kk_H18 w).2.1.2) w
theorem k_s5c (w : World) : KP_s5c w := byRow2 "special-get-raises" (fun w => (kk_H18 w).2.2.1) (fun w => (kk_H18 w).2.2.2) w
end
end Mine
end
section
open PySem PySem.W PyProof.Rows PySem.Calls
set_option maxRecDepth 100000
namespace Mine
noncomputable section
noncomputable def me14 (P : Params) : DictEntry := ⟨PyData.keyHash P (Str.ofString "TOMLDecodeError"), (Value.str (Str.ofString "TOMLDecodeError") 365), (Value.ref 55)⟩
noncomputable def ob3_6 (P : Params) : Obj := ⟨(Value.type "dict"), Option.none, (.dict #[me0 P, me1 P, me2 P, me3 P, me4 P, me5 P, me6 P, me7 P, me8 P, me9 P, me10 P, me11 P, me12 P, me13 P, me14 P] 15), #[]⟩
noncomputable def ob47_0 (P : Params) : Obj := ⟨(Value.type "builtin_function_or_method"), Option.none, (.fields #[(Value.builtin "type.__prepare__"), (Value.type "type")]), #[]⟩
noncomputable def ob55_0 (P : Params) : Obj := ⟨(Value.type "type"), Option.none, (.cls ⟨(Str.ofString "TOMLDecodeError"), [(Value.type "ValueError")], [(Value.ref 55), (Value.type "ValueError"), (Value.type "Exception"), (Value.type "BaseException"), (Value.type "object")], 54, (Str.ofString "TOMLDecodeError"), true, [], [], false, Option.none, false⟩), #[(some (Value.ref 46)), Option.none, (some (Value.str (Str.ofString "TOMLDecodeError") 348)), (some (Value.str (Str.ofString "TOMLDecodeError") 356)), (some (Value.builtin "ValueError.__new__")), (some (Value.bool true))]⟩
noncomputable def ob51_0 (P : Params) : Obj := ⟨(Value.type "code"), Option.none, (.fields #[(Value.str (Str.ofString "TOMLDecodeError") 350), (Value.str (Str.ofString "TOMLDecodeError") 351), (Value.str (Str.ofString "/claim/cut.py") 352), (Value.int (7) 0), (Value.int (0) 0), (Value.int (0) 0), (Value.int (0) 0), (Value.int (0) 0), (Value.ref 49), (Value.bool false), (Value.int (181) 0), (Value.ref 50), Value.none, Value.none, Value.none, Value.none, (Value.int (353) 0), (Value.int (7) 0), (Value.str (Str.ofString "/claim/cut.py") 354)]), #[]⟩
noncomputable def ob49_0 (P : Params) : Obj := ⟨(Value.type "tuple"), Option.none, (.seq #[] 0), #[]⟩
noncomputable def ob57_0 (P : Params) : Obj := ⟨(Value.type "super"), Option.none, (.fields #[(Value.ref 55), (Value.ref 55), (Value.ref 55)]), #[]⟩
noncomputable def ob53_0 (P : Params) : Obj := ⟨(Value.type "tuple"), Option.none, (.seq #[] 0), #[]⟩
noncomputable def ob48_0 (P : Params) : Obj := ⟨(Value.type "dict"), Option.none, (.dict #[⟨PyData.keyHash P (Str.ofString "__module__"), (Value.str (Str.ofString "__module__") 355), (Value.str (Str.ofString "cpy313.tomllib._parser") 187)⟩, ⟨PyData.keyHash P (Str.ofString "__qualname__"), (Value.str (Str.ofString "__qualname__") 357), (Value.str (Str.ofString "TOMLDecodeError") 356)⟩, ⟨PyData.keyHash P (Str.ofString "__firstlineno__"), (Value.str (Str.ofString "__firstlineno__") 359), (Value.int (7) 358)⟩, ⟨PyData.keyHash P (Str.ofString "__static_attributes__"), (Value.str (Str.ofString "__static_attributes__") 360), (Value.ref 53)⟩] 4), #[]⟩
noncomputable def ob56_0 (P : Params) : Obj := ⟨(Value.type "getset_descriptor"), Option.none, (.fields #[(Value.str (Str.ofString "__weakref__") 361), (Value.ref 55), (Value.builtin "ExceptionGroup.__weakref__"), Value.none]), #[]⟩
noncomputable def ob12_2 (P : Params) : Obj := ⟨Value.none, Option.none, (.fields #[(Value.int (2) 0), (Value.int (23) 0), (Value.ref 19), (Value.int (7) 0), (Value.int (0) 0), (Value.ref 51)]), #[]⟩
noncomputable def ob52_0 (P : Params) : Obj := ⟨(Value.type "frame"), Option.none, .plain, #[(some (Value.ref 51)), (some (Value.ref 3)), (some (Value.ref 48)), Option.none, (some (Value.str (Str.ofString "cpy313.tomllib._parser") 187)), Option.none, (some (Value.ref 0))]⟩
noncomputable def ob50_0 (P : Params) : Obj := ⟨Value.none, Option.none, (.fields #[]), #[]⟩
noncomputable def ob58_0 (P : Params) : Obj := ⟨(Value.type "builtin_function_or_method"), Option.none, (.fields #[(Value.builtin "object.__init_subclass__"), (Value.ref 55)]), #[]⟩
noncomputable def ob54_0 (P : Params) : Obj := ⟨(Value.type "dict"), Option.none, (.dict #[⟨PyData.keyHash P (Str.ofString "__module__"), (Value.str (Str.ofString "__module__") 355), (Value.str (Str.ofString "cpy313.tomllib._parser") 187)⟩, ⟨PyData.keyHash P (Str.ofString "__firstlineno__"), (Value.str (Str.ofString "__firstlineno__") 359), (Value.int (7) 358)⟩, ⟨PyData.keyHash P (Str.ofString "__static_attributes__"), (Value.str (Str.ofString "__static_attributes__") 360), (Value.ref 53)⟩, ⟨PyData.keyHash P (Str.ofString "__weakref__"), (Value.str (Str.ofString "__weakref__") 362), (Value.ref 56)⟩, ⟨PyData.keyHash P (Str.ofString "__doc__"), (Value.str (Str.ofString "__doc__") 363), Value.none⟩] 3), #[]⟩
noncomputable def ob46_0 (P : Params) : Obj := ⟨(Value.type "tuple"), Option.none, (.seq #[(Value.type "ValueError")] 0), #[]⟩
noncomputable def me15 (P : Params) : DictEntry := ⟨PyData.keyHash P (Str.ofString "skip_chars"), (Value.str (Str.ofString "skip_chars") 374), (Value.ref 65)⟩
noncomputable def me16 (P : Params) : DictEntry := ⟨PyData.keyHash P (Str.ofString "skip_until"), (Value.str (Str.ofString "skip_until") 386), (Value.ref 72)⟩
noncomputable def me17 (P : Params) : DictEntry := ⟨PyData.keyHash P (Str.ofString "skip_comment"), (Value.str (Str.ofString "skip_comment") 395), (Value.ref 79)⟩
noncomputable def me18 (P : Params) : DictEntry := ⟨PyData.keyHash P (Str.ofString "skip_comments_and_array_ws"), (Value.str (Str.ofString "skip_comments_and_array_ws") 404), (Value.ref 86)⟩
noncomputable def me19 (P : Params) : DictEntry := ⟨PyData.keyHash P (Str.ofString "suffixed_err"), (Value.str (Str.ofString "suffixed_err") 414), (Value.ref 93)⟩
noncomputable def ob3_7 (P : Params) : Obj := ⟨(Value.type "dict"), Option.none, (.dict #[me0 P, me1 P, me2 P, me3 P, me4 P, me5 P, me6 P, me7 P, me8 P, me9 P, me10 P, me11 P, me12 P, me13 P, me14 P, me15 P, me16 P, me17 P, me18 P, me19 P] 20), #[]⟩
noncomputable def ob63_0 (P : Params) : Obj := ⟨Value.none, Option.none, (.func ⟨(Str.ofString "skip_chars"), (Str.ofString "skip_chars"), paramsOf (stAt 7), .stmts (bodyOf (stAt 7)), scopeOf (stAt 7), 0, [], Value.none, Value.none, Value.none, Value.none, Option.none, Value.none, Value.none, 0⟩), #[]⟩
noncomputable def ob79_0 (P : Params) : Obj := ⟨(Value.type "function"), Option.none, (.func ⟨(Str.ofString "skip_comment"), (Str.ofString "skip_comment"), paramsOf (stAt 9), .stmts (bodyOf (stAt 9)), scopeOf (stAt 9), 3, [], Value.none, Value.none, Value.none, (Value.str (Str.ofString "cpy313.tomllib._parser") 187), Option.none, (Value.ref 78), Value.none, 0⟩), #[]⟩
noncomputable def ob71_0 (P : Params) : Obj := ⟨(Value.type "code"), Option.none, (.fields #[(Value.str (Str.ofString "skip_until") 375), (Value.str (Str.ofString "skip_until") 376), (Value.str (Str.ofString "/claim/cut.py") 377), (Value.int (16) 0), (Value.int (3) 0), (Value.int (0) 0), (Value.int (2) 0), (Value.int (3) 0), (Value.ref 66), (Value.bool true), (Value.int (181) 0), (Value.ref 67), Value.none, (Value.ref 68), (Value.ref 69), (Value.ref 70), (Value.int (384) 0), (Value.int (16) 0), (Value.str (Str.ofString "/claim/cut.py") 385)]), #[]⟩
noncomputable def ob87_0 (P : Params) : Obj := ⟨(Value.type "tuple"), Option.none, (.seq #[] 0), #[]⟩
noncomputable def ob67_0 (P : Params) : Obj := ⟨Value.none, Option.none, (.fields #[]), #[]⟩
noncomputable def ob83_0 (P : Params) : Obj := ⟨(Value.type "tuple"), Option.none, (.seq #[] 0), #[]⟩
noncomputable def ob75_0 (P : Params) : Obj := ⟨(Value.type "tuple"), Option.none, (.seq #[(Value.str (Str.ofString "src") 390), (Value.str (Str.ofString "pos") 391), (Value.str (Str.ofString "char") 392)] 0), #[]⟩
noncomputable def ob59_0 (P : Params) : Obj := ⟨(Value.type "tuple"), Option.none, (.seq #[] 0), #[]⟩
noncomputable def ob91_0 (P : Params) : Obj := ⟨Value.none, Option.none, (.func ⟨(Str.ofString "suffixed_err"), (Str.ofString "suffixed_err"), paramsOf (stAt 11), .stmts (bodyOf (stAt 11)), scopeOf (stAt 11), 0, [], Value.none, Value.none, Value.none, Value.none, Option.none, Value.none, Value.none, 0⟩), #[]⟩
noncomputable def ob65_0 (P : Params) : Obj := ⟨(Value.type "function"), Option.none, (.func ⟨(Str.ofString "skip_chars"), (Str.ofString "skip_chars"), paramsOf (stAt 7), .stmts (bodyOf (stAt 7)), scopeOf (stAt 7), 3, [], Value.none, Value.none, Value.none, (Value.str (Str.ofString "cpy313.tomllib._parser") 187), Option.none, (Value.ref 64), Value.none, 0⟩), #[]⟩
noncomputable def ob81_0 (P : Params) : Obj := ⟨Value.none, Option.none, (.fields #[]), #[]⟩
noncomputable def ob73_0 (P : Params) : Obj := ⟨(Value.type "tuple"), Option.none, (.seq #[] 0), #[]⟩
noncomputable def ob89_0 (P : Params) : Obj := ⟨(Value.type "tuple"), Option.none, (.seq #[(Value.str (Str.ofString "src") 408), (Value.str (Str.ofString "pos") 409), (Value.str (Str.ofString "msg") 410), (Value.str (Str.ofString "coord_repr") 411)] 0), #[]⟩
noncomputable def ob69_0 (P : Params) : Obj := ⟨(Value.type "tuple"), Option.none, (.seq #[] 0), #[]⟩
noncomputable def ob85_0 (P : Params) : Obj := ⟨(Value.type "code"), Option.none, (.fields #[(Value.str (Str.ofString "skip_comments_and_array_ws") 396), (Value.str (Str.ofString "skip_comments_and_array_ws") 397), (Value.str (Str.ofString "/claim/cut.py") 398), (Value.int (36) 0), (Value.int (2) 0), (Value.int (0) 0), (Value.int (0) 0), (Value.int (3) 0), (Value.ref 80), (Value.bool true), (Value.int (181) 0), (Value.ref 81), Value.none, (Value.ref 82), (Value.ref 83), (Value.ref 84), (Value.int (402) 0), (Value.int (36) 0), (Value.str (Str.ofString "/claim/cut.py") 403)]), #[]⟩
noncomputable def ob77_0 (P : Params) : Obj := ⟨Value.none, Option.none, (.func ⟨(Str.ofString "skip_comment"), (Str.ofString "skip_comment"), paramsOf (stAt 9), .stmts (bodyOf (stAt 9)), scopeOf (stAt 9), 0, [], Value.none, Value.none, Value.none, Value.none, Option.none, Value.none, Value.none, 0⟩), #[]⟩
noncomputable def ob61_0 (P : Params) : Obj := ⟨(Value.type "tuple"), Option.none, (.seq #[(Value.str (Str.ofString "src") 369), (Value.str (Str.ofString "pos") 370), (Value.str (Str.ofString "chars") 371)] 0), #[]⟩
noncomputable def ob93_0 (P : Params) : Obj := ⟨(Value.type "function"), Option.none, (.func ⟨(Str.ofString "suffixed_err"), (Str.ofString "suffixed_err"), paramsOf (stAt 11), .stmts (bodyOf (stAt 11)), scopeOf (stAt 11), 3, [], Value.none, Value.none, Value.none, (Value.str (Str.ofString "cpy313.tomllib._parser") 187), Option.none, (Value.ref 92), Value.none, 0⟩), #[]⟩
noncomputable def ob64_0 (P : Params) : Obj := ⟨(Value.type "code"), Option.none, (.fields #[(Value.str (Str.ofString "skip_chars") 366), (Value.str (Str.ofString "skip_chars") 367), (Value.str (Str.ofString "/claim/cut.py") 368), (Value.int (9) 0), (Value.int (3) 0), (Value.int (0) 0), (Value.int (0) 0), (Value.int (3) 0), (Value.ref 59), (Value.bool true), (Value.int (181) 0), (Value.ref 60), Value.none, (Value.ref 61), (Value.ref 62), (Value.ref 63), (Value.int (372) 0), (Value.int (9) 0), (Value.str (Str.ofString "/claim/cut.py") 373)]), #[]⟩
noncomputable def ob80_0 (P : Params) : Obj := ⟨(Value.type "tuple"), Option.none, (.seq #[] 0), #[]⟩
noncomputable def ob72_0 (P : Params) : Obj := ⟨(Value.type "function"), Option.none, (.func ⟨(Str.ofString "skip_until"), (Str.ofString "skip_until"), paramsOf (stAt 8), .stmts (bodyOf (stAt 8)), scopeOf (stAt 8), 3, [], Value.none, Value.none, Value.none, (Value.str (Str.ofString "cpy313.tomllib._parser") 187), Option.none, (Value.ref 71), Value.none, 0⟩), #[]⟩
noncomputable def ob88_0 (P : Params) : Obj := ⟨Value.none, Option.none, (.fields #[]), #[]⟩
noncomputable def ob12_3 (P : Params) : Obj := ⟨Value.none, Option.none, (.fields #[(Value.int (2) 0), (Value.int (23) 0), (Value.ref 19), (Value.int (7) 0), (Value.int (0) 0), (Value.ref 51), (Value.int (9) 0), (Value.int (0) 0), (Value.ref 64), (Value.int (16) 0), (Value.int (0) 0), (Value.ref 71), (Value.int (28) 0), (Value.int (0) 0), (Value.ref 78), (Value.int (36) 0), (Value.int (0) 0), (Value.ref 85), (Value.int (43) 0), (Value.int (0) 0), (Value.ref 92)]), #[]⟩
noncomputable def ob68_0 (P : Params) : Obj := ⟨(Value.type "tuple"), Option.none, (.seq #[(Value.str (Str.ofString "src") 378), (Value.str (Str.ofString "pos") 379), (Value.str (Str.ofString "expect") 380), (Value.str (Str.ofString "error_on") 381), (Value.str (Str.ofString "error_on_eof") 382), (Value.str (Str.ofString "new_pos") 383)] 0), #[]⟩
noncomputable def ob84_0 (P : Params) : Obj := ⟨Value.none, Option.none, (.func ⟨(Str.ofString "skip_comments_and_array_ws"), (Str.ofString "skip_comments_and_array_ws"), paramsOf (stAt 10), .stmts (bodyOf (stAt 10)), scopeOf (stAt 10), 0, [], Value.none, Value.none, Value.none, Value.none, Option.none, Value.none, Value.none, 0⟩), #[]⟩
noncomputable def ob76_0 (P : Params) : Obj := ⟨(Value.type "tuple"), Option.none, (.seq #[] 0), #[]⟩
noncomputable def ob60_0 (P : Params) : Obj := ⟨Value.none, Option.none, (.fields #[]), #[]⟩
noncomputable def ob92_0 (P : Params) : Obj := ⟨(Value.type "code"), Option.none, (.fields #[(Value.str (Str.ofString "suffixed_err") 405), (Value.str (Str.ofString "suffixed_err") 406), (Value.str (Str.ofString "/claim/cut.py") 407), (Value.int (43) 0), (Value.int (3) 0), (Value.int (0) 0), (Value.int (0) 0), (Value.int (3) 0), (Value.ref 87), (Value.bool true), (Value.int (181) 0), (Value.ref 88), Value.none, (Value.ref 89), (Value.ref 90), (Value.ref 91), (Value.int (412) 0), (Value.int (43) 0), (Value.str (Str.ofString "/claim/cut.py") 413)]), #[]⟩
noncomputable def ob66_0 (P : Params) : Obj := ⟨(Value.type "tuple"), Option.none, (.seq #[] 0), #[]⟩
noncomputable def ob82_0 (P : Params) : Obj := ⟨(Value.type "tuple"), Option.none, (.seq #[(Value.str (Str.ofString "src") 399), (Value.str (Str.ofString "pos") 400), (Value.str (Str.ofString "pos_before_skip") 401)] 0), #[]⟩
noncomputable def ob74_0 (P : Params) : Obj := ⟨Value.none, Option.none, (.fields #[]), #[]⟩
noncomputable def ob90_0 (P : Params) : Obj := ⟨(Value.type "tuple"), Option.none, (.seq #[] 0), #[]⟩
noncomputable def ob70_0 (P : Params) : Obj := ⟨Value.none, Option.none, (.func ⟨(Str.ofString "skip_until"), (Str.ofString "skip_until"), paramsOf (stAt 8), .stmts (bodyOf (stAt 8)), scopeOf (stAt 8), 0, [], Value.none, Value.none, Value.none, Value.none, Option.none, Value.none, Value.none, 0⟩), #[]⟩
noncomputable def ob86_0 (P : Params) : Obj := ⟨(Value.type "function"), Option.none, (.func ⟨(Str.ofString "skip_comments_and_array_ws"), (Str.ofString "skip_comments_and_array_ws"), paramsOf (stAt 10), .stmts (bodyOf (stAt 10)), scopeOf (stAt 10), 3, [], Value.none, Value.none, Value.none, (Value.str (Str.ofString "cpy313.tomllib._parser") 187), Option.none, (Value.ref 85), Value.none, 0⟩), #[]⟩
noncomputable def ob78_0 (P : Params) : Obj := ⟨(Value.type "code"), Option.none, (.fields #[(Value.str (Str.ofString "skip_comment") 387), (Value.str (Str.ofString "skip_comment") 388), (Value.str (Str.ofString "/claim/cut.py") 389), (Value.int (28) 0), (Value.int (2) 0), (Value.int (0) 0), (Value.int (0) 0), (Value.int (3) 0), (Value.ref 73), (Value.bool true), (Value.int (181) 0), (Value.ref 74), Value.none, (Value.ref 75), (Value.ref 76), (Value.ref 77), (Value.int (393) 0), (Value.int (28) 0), (Value.str (Str.ofString "/claim/cut.py") 394)]), #[]⟩
noncomputable def ob62_0 (P : Params) : Obj := ⟨(Value.type "tuple"), Option.none, (.seq #[] 0), #[]⟩
noncomputable def me20 (P : Params) : DictEntry := ⟨PyData.keyHash P (Str.ofString "__name__"), (Value.str (Str.ofString "__name__") 165), (Value.str (Str.ofString "cpy313.stat") 430)⟩
noncomputable def me21 (P : Params) : DictEntry := ⟨PyData.keyHash P (Str.ofString "_initial_missing"), (Value.str (Str.ofString "_initial_missing") 417), (Value.ref 94)⟩
noncomputable def me22 (P : Params) : DictEntry := ⟨PyData.keyHash P (Str.ofString "reduce"), (Value.str (Str.ofString "reduce") 429), (Value.ref 102)⟩
noncomputable def me23 (P : Params) : DictEntry := ⟨PyData.keyHash P (Str.ofString "S_IFMT"), (Value.str (Str.ofString "S_IFMT") 438), (Value.ref 109)⟩
noncomputable def ob3_8 (P : Params) : Obj := ⟨(Value.type "dict"), Option.none, (.dict #[me20 P, me1 P, me2 P, me3 P, me4 P, me5 P, me6 P, me7 P, me8 P, me9 P, me10 P, me11 P, me12 P, me13 P, me14 P, me15 P, me16 P, me17 P, me18 P, me19 P, me21 P, me22 P, me23 P] 23), #[]⟩
noncomputable def ob95_0 (P : Params) : Obj := ⟨(Value.type "tuple"), Option.none, (.seq #[(Value.ref 94)] 0), #[]⟩
noncomputable def ob103_0 (P : Params) : Obj := ⟨(Value.type "tuple"), Option.none, (.seq #[] 0), #[]⟩
noncomputable def ob99_0 (P : Params) : Obj := ⟨(Value.type "tuple"), Option.none, (.seq #[] 0), #[]⟩
noncomputable def ob107_0 (P : Params) : Obj := ⟨Value.none, Option.none, (.func ⟨(Str.ofString "S_IFMT"), (Str.ofString "S_IFMT"), paramsOf (stAt 16), .stmts (bodyOf (stAt 16)), scopeOf (stAt 16), 0, [], Value.none, Value.none, Value.none, Value.none, Option.none, Value.none, Value.none, 0⟩), #[]⟩
noncomputable def ob97_0 (P : Params) : Obj := ⟨Value.none, Option.none, (.fields #[]), #[]⟩
noncomputable def ob105_0 (P : Params) : Obj := ⟨(Value.type "tuple"), Option.none, (.seq #[(Value.str (Str.ofString "mode") 435)] 0), #[]⟩
noncomputable def ob101_0 (P : Params) : Obj := ⟨(Value.type "code"), Option.none, (.fields #[(Value.str (Str.ofString "reduce") 418), (Value.str (Str.ofString "reduce") 419), (Value.str (Str.ofString "/claim/cut.py") 420), (Value.int (57) 0), (Value.int (3) 0), (Value.int (0) 0), (Value.int (0) 0), (Value.int (3) 0), (Value.ref 96), (Value.bool true), (Value.int (181) 0), (Value.ref 97), Value.none, (Value.ref 98), (Value.ref 99), (Value.ref 100), (Value.int (427) 0), (Value.int (57) 0), (Value.str (Str.ofString "/claim/cut.py") 428)]), #[]⟩
noncomputable def ob109_0 (P : Params) : Obj := ⟨(Value.type "function"), Option.none, (.func ⟨(Str.ofString "S_IFMT"), (Str.ofString "S_IFMT"), paramsOf (stAt 16), .stmts (bodyOf (stAt 16)), scopeOf (stAt 16), 3, [], Value.none, Value.none, Value.none, (Value.str (Str.ofString "cpy313.stat") 430), Option.none, (Value.ref 108), Value.none, 0⟩), #[]⟩
noncomputable def ob96_0 (P : Params) : Obj := ⟨(Value.type "tuple"), Option.none, (.seq #[] 0), #[]⟩
noncomputable def ob104_0 (P : Params) : Obj := ⟨Value.none, Option.none, (.fields #[]), #[]⟩
noncomputable def ob12_4 (P : Params) : Obj := ⟨Value.none, Option.none, (.fields #[(Value.int (2) 0), (Value.int (23) 0), (Value.ref 19), (Value.int (7) 0), (Value.int (0) 0), (Value.ref 51), (Value.int (9) 0), (Value.int (0) 0), (Value.ref 64), (Value.int (16) 0), (Value.int (0) 0), (Value.ref 71), (Value.int (28) 0), (Value.int (0) 0), (Value.ref 78), (Value.int (36) 0), (Value.int (0) 0), (Value.ref 85), (Value.int (43) 0), (Value.int (0) 0), (Value.ref 92), (Value.int (57) 0), (Value.int (0) 0), (Value.ref 101), (Value.int (70) 0), (Value.int (0) 0), (Value.ref 108)]), #[]⟩
noncomputable def ob100_0 (P : Params) : Obj := ⟨Value.none, Option.none, (.func ⟨(Str.ofString "reduce"), (Str.ofString "reduce"), paramsOf (stAt 14), .stmts (bodyOf (stAt 14)), scopeOf (stAt 14), 0, [], Value.none, Value.none, Value.none, Value.none, Option.none, Value.none, Value.none, 0⟩), #[]⟩
noncomputable def ob108_0 (P : Params) : Obj := ⟨(Value.type "code"), Option.none, (.fields #[(Value.str (Str.ofString "S_IFMT") 432), (Value.str (Str.ofString "S_IFMT") 433), (Value.str (Str.ofString "/claim/cut.py") 434), (Value.int (70) 0), (Value.int (1) 0), (Value.int (0) 0), (Value.int (0) 0), (Value.int (3) 0), (Value.ref 103), (Value.bool true), (Value.int (181) 0), (Value.ref 104), Value.none, (Value.ref 105), (Value.ref 106), (Value.ref 107), (Value.int (436) 0), (Value.int (70) 0), (Value.str (Str.ofString "/claim/cut.py") 437)]), #[]⟩
noncomputable def ob98_0 (P : Params) : Obj := ⟨(Value.type "tuple"), Option.none, (.seq #[(Value.str (Str.ofString "function") 421), (Value.str (Str.ofString "sequence") 422), (Value.str (Str.ofString "initial") 423), (Value.str (Str.ofString "it") 424), (Value.str (Str.ofString "value") 425), (Value.str (Str.ofString "element") 426)] 0), #[]⟩
noncomputable def ob106_0 (P : Params) : Obj := ⟨(Value.type "tuple"), Option.none, (.seq #[] 0), #[]⟩
noncomputable def ob102_0 (P : Params) : Obj := ⟨(Value.type "function"), Option.none, (.func ⟨(Str.ofString "reduce"), (Str.ofString "reduce"), paramsOf (stAt 14), .stmts (bodyOf (stAt 14)), scopeOf (stAt 14), 3, [], (Value.ref 95), Value.none, Value.none, (Value.str (Str.ofString "cpy313.functools") 415), Option.none, (Value.ref 101), Value.none, 0⟩), #[]⟩
noncomputable def ob94_0 (P : Params) : Obj := ⟨(Value.type "object"), Option.none, .plain, #[]⟩
noncomputable def me24 (P : Params) : DictEntry := ⟨PyData.keyHash P (Str.ofString "S_IFDIR"), (Value.str (Str.ofString "S_IFDIR") 440), (Value.int (16384) 439)⟩
noncomputable def me25 (P : Params) : DictEntry := ⟨PyData.keyHash P (Str.ofString "S_IFCHR"), (Value.str (Str.ofString "S_IFCHR") 442), (Value.int (8192) 441)⟩
noncomputable def me26 (P : Params) : DictEntry := ⟨PyData.keyHash P (Str.ofString "S_IFBLK"), (Value.str (Str.ofString "S_IFBLK") 444), (Value.int (24576) 443)⟩
noncomputable def me27 (P : Params) : DictEntry := ⟨PyData.keyHash P (Str.ofString "S_IFREG"), (Value.str (Str.ofString "S_IFREG") 446), (Value.int (32768) 445)⟩
noncomputable def me28 (P : Params) : DictEntry := ⟨PyData.keyHash P (Str.ofString "S_IFIFO"), (Value.str (Str.ofString "S_IFIFO") 448), (Value.int (4096) 447)⟩
noncomputable def me29 (P : Params) : DictEntry := ⟨PyData.keyHash P (Str.ofString "S_IFLNK"), (Value.str (Str.ofString "S_IFLNK") 450), (Value.int (40960) 449)⟩
noncomputable def me30 (P : Params) : DictEntry := ⟨PyData.keyHash P (Str.ofString "S_IFSOCK"), (Value.str (Str.ofString "S_IFSOCK") 452), (Value.int (49152) 451)⟩
noncomputable def me31 (P : Params) : DictEntry := ⟨PyData.keyHash P (Str.ofString "S_ISUID"), (Value.str (Str.ofString "S_ISUID") 454), (Value.int (2048) 453)⟩
noncomputable def me32 (P : Params) : DictEntry := ⟨PyData.keyHash P (Str.ofString "S_ISGID"), (Value.str (Str.ofString "S_ISGID") 456), (Value.int (1024) 455)⟩
noncomputable def me33 (P : Params) : DictEntry := ⟨PyData.keyHash P (Str.ofString "S_ISVTX"), (Value.str (Str.ofString "S_ISVTX") 458), (Value.int (512) 457)⟩
noncomputable def me34 (P : Params) : DictEntry := ⟨PyData.keyHash P (Str.ofString "S_IRUSR"), (Value.str (Str.ofString "S_IRUSR") 460), (Value.int (256) 459)⟩
noncomputable def me35 (P : Params) : DictEntry := ⟨PyData.keyHash P (Str.ofString "S_IWUSR"), (Value.str (Str.ofString "S_IWUSR") 462), (Value.int (128) 461)⟩
noncomputable def me36 (P : Params) : DictEntry := ⟨PyData.keyHash P (Str.ofString "S_IXUSR"), (Value.str (Str.ofString "S_IXUSR") 464), (Value.int (64) 463)⟩
noncomputable def me37 (P : Params) : DictEntry := ⟨PyData.keyHash P (Str.ofString "S_IRGRP"), (Value.str (Str.ofString "S_IRGRP") 466), (Value.int (32) 465)⟩
noncomputable def me38 (P : Params) : DictEntry := ⟨PyData.keyHash P (Str.ofString "S_IWGRP"), (Value.str (Str.ofString "S_IWGRP") 468), (Value.int (16) 467)⟩
noncomputable def me39 (P : Params) : DictEntry := ⟨PyData.keyHash P (Str.ofString "S_IXGRP"), (Value.str (Str.ofString "S_IXGRP") 470), (Value.int (8) 469)⟩
noncomputable def me40 (P : Params) : DictEntry := ⟨PyData.keyHash P (Str.ofString "S_IROTH"), (Value.str (Str.ofString "S_IROTH") 472), (Value.int (4) 471)⟩
noncomputable def me41 (P : Params) : DictEntry := ⟨PyData.keyHash P (Str.ofString "S_IWOTH"), (Value.str (Str.ofString "S_IWOTH") 474), (Value.int (2) 473)⟩
noncomputable def me42 (P : Params) : DictEntry := ⟨PyData.keyHash P (Str.ofString "S_IXOTH"), (Value.str (Str.ofString "S_IXOTH") 476), (Value.int (1) 475)⟩
noncomputable def ob3_9 (P : Params) : Obj := ⟨(Value.type "dict"), Option.none, (.dict #[me20 P, me1 P, me2 P, me3 P, me4 P, me5 P, me6 P, me7 P, me8 P, me9 P, me10 P, me11 P, me12 P, me13 P, me14 P, me15 P, me16 P, me17 P, me18 P, me19 P, me21 P, me22 P, me23 P, me24 P, me25 P, me26 P, me27 P, me28 P, me29 P, me30 P, me31 P, me32 P, me33 P, me34 P, me35 P, me36 P, me37 P, me38 P, me39 P, me40 P, me41 P, me42 P] 42), #[]⟩
noncomputable def me43 (P : Params) : DictEntry := ⟨PyData.keyHash P (Str.ofString "_filemode_table"), (Value.str (Str.ofString "_filemode_table") 502), (Value.ref 142)⟩
noncomputable def ob3_10 (P : Params) : Obj := ⟨(Value.type "dict"), Option.none, (.dict #[me20 P, me1 P, me2 P, me3 P, me4 P, me5 P, me6 P, me7 P, me8 P, me9 P, me10 P, me11 P, me12 P, me13 P, me14 P, me15 P, me16 P, me17 P, me18 P, me19 P, me21 P, me22 P, me23 P, me24 P, me25 P, me26 P, me27 P, me28 P, me29 P, me30 P, me31 P, me32 P, me33 P, me34 P, me35 P, me36 P, me37 P, me38 P, me39 P, me40 P, me41 P, me42 P, me43 P] 43), #[]⟩
noncomputable def ob127_0 (P : Params) : Obj := ⟨(Value.type "tuple"), Option.none, (.seq #[(Value.ref 126)] 0), #[]⟩
noncomputable def ob111_0 (P : Params) : Obj := ⟨(Value.type "tuple"), Option.none, (.seq #[(Value.int (49152) 451), (Value.str (Str.ofString "s") 478)] 0), #[]⟩
noncomputable def ob135_0 (P : Params) : Obj := ⟨(Value.type "tuple"), Option.none, (.seq #[(Value.ref 134)] 0), #[]⟩
noncomputable def ob119_0 (P : Params) : Obj := ⟨(Value.type "tuple"), Option.none, (.seq #[(Value.ref 118)] 0), #[]⟩
noncomputable def ob131_0 (P : Params) : Obj := ⟨(Value.type "tuple"), Option.none, (.seq #[(Value.int (1024) 455), (Value.str (Str.ofString "S") 494)] 0), #[]⟩
noncomputable def ob115_0 (P : Params) : Obj := ⟨(Value.type "tuple"), Option.none, (.seq #[(Value.int (8192) 441), (Value.str (Str.ofString "c") 482)] 0), #[]⟩
noncomputable def ob139_0 (P : Params) : Obj := ⟨(Value.type "tuple"), Option.none, (.seq #[(Value.int (512) 457), (Value.str (Str.ofString "T") 500)] 0), #[]⟩
noncomputable def ob123_0 (P : Params) : Obj := ⟨(Value.type "tuple"), Option.none, (.seq #[(Value.int (2048) 453), (Value.str (Str.ofString "S") 488)] 0), #[]⟩
noncomputable def ob129_0 (P : Params) : Obj := ⟨(Value.type "tuple"), Option.none, (.seq #[(Value.ref 128)] 0), #[]⟩
noncomputable def ob113_0 (P : Params) : Obj := ⟨(Value.type "tuple"), Option.none, (.seq #[(Value.int (24576) 443), (Value.str (Str.ofString "b") 480)] 0), #[]⟩
noncomputable def ob137_0 (P : Params) : Obj := ⟨(Value.type "tuple"), Option.none, (.seq #[(Value.ref 136)] 0), #[]⟩
noncomputable def ob121_0 (P : Params) : Obj := ⟨(Value.type "tuple"), Option.none, (.seq #[(Value.ref 120)] 0), #[]⟩
noncomputable def ob133_0 (P : Params) : Obj := ⟨(Value.type "tuple"), Option.none, (.seq #[(Value.ref 130), (Value.ref 131), (Value.ref 132)] 0), #[]⟩
noncomputable def ob117_0 (P : Params) : Obj := ⟨(Value.type "tuple"), Option.none, (.seq #[(Value.ref 110), (Value.ref 111), (Value.ref 112), (Value.ref 113), (Value.ref 114), (Value.ref 115), (Value.ref 116)] 0), #[]⟩
noncomputable def ob141_0 (P : Params) : Obj := ⟨(Value.type "tuple"), Option.none, (.seq #[(Value.ref 138), (Value.ref 139), (Value.ref 140)] 0), #[]⟩
noncomputable def ob125_0 (P : Params) : Obj := ⟨(Value.type "tuple"), Option.none, (.seq #[(Value.ref 122), (Value.ref 123), (Value.ref 124)] 0), #[]⟩
noncomputable def ob128_0 (P : Params) : Obj := ⟨(Value.type "tuple"), Option.none, (.seq #[(Value.int (16) 467), (Value.str (Str.ofString "w") 491)] 0), #[]⟩
noncomputable def ob112_0 (P : Params) : Obj := ⟨(Value.type "tuple"), Option.none, (.seq #[(Value.int (32768) 445), (Value.str (Str.ofString "-") 479)] 0), #[]⟩
noncomputable def ob136_0 (P : Params) : Obj := ⟨(Value.type "tuple"), Option.none, (.seq #[(Value.int (2) 473), (Value.str (Str.ofString "w") 497)] 0), #[]⟩
noncomputable def ob120_0 (P : Params) : Obj := ⟨(Value.type "tuple"), Option.none, (.seq #[(Value.int (128) 461), (Value.str (Str.ofString "w") 485)] 0), #[]⟩
noncomputable def ob132_0 (P : Params) : Obj := ⟨(Value.type "tuple"), Option.none, (.seq #[(Value.int (8) 469), (Value.str (Str.ofString "x") 495)] 0), #[]⟩
noncomputable def ob116_0 (P : Params) : Obj := ⟨(Value.type "tuple"), Option.none, (.seq #[(Value.int (4096) 447), (Value.str (Str.ofString "p") 483)] 0), #[]⟩
noncomputable def ob140_0 (P : Params) : Obj := ⟨(Value.type "tuple"), Option.none, (.seq #[(Value.int (1) 475), (Value.str (Str.ofString "x") 501)] 0), #[]⟩
noncomputable def ob124_0 (P : Params) : Obj := ⟨(Value.type "tuple"), Option.none, (.seq #[(Value.int (64) 463), (Value.str (Str.ofString "x") 489)] 0), #[]⟩
noncomputable def ob130_0 (P : Params) : Obj := ⟨(Value.type "tuple"), Option.none, (.seq #[(Value.int (1032) 492), (Value.str (Str.ofString "s") 493)] 0), #[]⟩
noncomputable def ob114_0 (P : Params) : Obj := ⟨(Value.type "tuple"), Option.none, (.seq #[(Value.int (16384) 439), (Value.str (Str.ofString "d") 481)] 0), #[]⟩
noncomputable def ob138_0 (P : Params) : Obj := ⟨(Value.type "tuple"), Option.none, (.seq #[(Value.int (513) 498), (Value.str (Str.ofString "t") 499)] 0), #[]⟩
noncomputable def ob122_0 (P : Params) : Obj := ⟨(Value.type "tuple"), Option.none, (.seq #[(Value.int (2112) 486), (Value.str (Str.ofString "s") 487)] 0), #[]⟩
noncomputable def ob134_0 (P : Params) : Obj := ⟨(Value.type "tuple"), Option.none, (.seq #[(Value.int (4) 471), (Value.str (Str.ofString "r") 496)] 0), #[]⟩
noncomputable def ob118_0 (P : Params) : Obj := ⟨(Value.type "tuple"), Option.none, (.seq #[(Value.int (256) 459), (Value.str (Str.ofString "r") 484)] 0), #[]⟩
noncomputable def ob142_0 (P : Params) : Obj := ⟨(Value.type "tuple"), Option.none, (.seq #[(Value.ref 117), (Value.ref 119), (Value.ref 121), (Value.ref 125), (Value.ref 127), (Value.ref 129), (Value.ref 133), (Value.ref 135), (Value.ref 137), (Value.ref 141)] 0), #[]⟩
noncomputable def ob110_0 (P : Params) : Obj := ⟨(Value.type "tuple"), Option.none, (.seq #[(Value.int (40960) 449), (Value.str (Str.ofString "l") 477)] 0), #[]⟩
noncomputable def ob126_0 (P : Params) : Obj := ⟨(Value.type "tuple"), Option.none, (.seq #[(Value.int (32) 465), (Value.str (Str.ofString "r") 490)] 0), #[]⟩
noncomputable def me44 (P : Params) : DictEntry := ⟨PyData.keyHash P (Str.ofString "__name__"), (Value.str (Str.ofString "__name__") 165), (Value.str (Str.ofString "law_oy0153_01") 515)⟩
noncomputable def me45 (P : Params) : DictEntry := ⟨PyData.keyHash P (Str.ofString "filemode"), (Value.str (Str.ofString "filemode") 514), (Value.ref 149)⟩
noncomputable def me46 (P : Params) : DictEntry := ⟨PyData.keyHash P (Str.ofString "_law_clause"), (Value.str (Str.ofString "_law_clause") 527), (Value.ref 156)⟩
noncomputable def me47 (P : Params) : DictEntry := ⟨PyData.keyHash P (Str.ofString "_law_written"), (Value.str (Str.ofString "_law_written") 533), (Value.ref 161)⟩
noncomputable def me48 (P : Params) : DictEntry := ⟨PyData.keyHash P (Str.ofString "_law_read"), (Value.str (Str.ofString "_law_read") 545), (Value.ref 168)⟩
noncomputable def ob3_11 (P : Params) : Obj := ⟨(Value.type "dict"), Option.none, (.dict #[me44 P, me1 P, me2 P, me3 P, me4 P, me5 P, me6 P, me7 P, me8 P, me9 P, me10 P, me11 P, me12 P, me13 P, me14 P, me15 P, me16 P, me17 P, me18 P, me19 P, me21 P, me22 P, me23 P, me24 P, me25 P, me26 P, me27 P, me28 P, me29 P, me30 P, me31 P, me32 P, me33 P, me34 P, me35 P, me36 P, me37 P, me38 P, me39 P, me40 P, me41 P, me42 P, me43 P, me45 P, me46 P, me47 P, me48 P] 47), #[]⟩
noncomputable def ob159_0 (P : Params) : Obj := ⟨Value.none, Option.none, (.func ⟨(Str.ofString "_law_written"), (Str.ofString "_law_written"), paramsOf (stAt 40), .stmts (bodyOf (stAt 40)), scopeOf (stAt 40), 0, [], Value.none, Value.none, Value.none, Value.none, Option.none, Value.none, Value.none, 0⟩), #[]⟩
noncomputable def ob143_0 (P : Params) : Obj := ⟨(Value.type "tuple"), Option.none, (.seq #[] 0), #[]⟩
noncomputable def ob167_0 (P : Params) : Obj := ⟨(Value.type "code"), Option.none, (.fields #[(Value.str (Str.ofString "_law_read") 534), (Value.str (Str.ofString "_law_read") 535), (Value.str (Str.ofString "/claim/cut.py") 536), (Value.int (127) 0), (Value.int (1) 0), (Value.int (0) 0), (Value.int (0) 0), (Value.int (3) 0), (Value.ref 162), (Value.bool true), (Value.int (181) 0), (Value.ref 163), Value.none, (Value.ref 164), (Value.ref 165), (Value.ref 166), (Value.int (543) 0), (Value.int (127) 0), (Value.str (Str.ofString "/claim/cut.py") 544)]), #[]⟩
noncomputable def ob151_0 (P : Params) : Obj := ⟨Value.none, Option.none, (.fields #[]), #[]⟩
noncomputable def ob163_0 (P : Params) : Obj := ⟨Value.none, Option.none, (.fields #[]), #[]⟩
noncomputable def ob147_0 (P : Params) : Obj := ⟨Value.none, Option.none, (.func ⟨(Str.ofString "filemode"), (Str.ofString "filemode"), paramsOf (stAt 37), .stmts (bodyOf (stAt 37)), scopeOf (stAt 37), 0, [], Value.none, Value.none, Value.none, Value.none, Option.none, Value.none, Value.none, 0⟩), #[]⟩
noncomputable def ob155_0 (P : Params) : Obj := ⟨(Value.type "code"), Option.none, (.fields #[(Value.str (Str.ofString "_law_clause") 517), (Value.str (Str.ofString "_law_clause") 518), (Value.str (Str.ofString "/claim/cut.py") 519), (Value.int (110) 0), (Value.int (1) 0), (Value.int (0) 0), (Value.int (0) 0), (Value.int (3) 0), (Value.ref 150), (Value.bool true), (Value.int (181) 0), (Value.ref 151), Value.none, (Value.ref 152), (Value.ref 153), (Value.ref 154), (Value.int (525) 0), (Value.int (110) 0), (Value.str (Str.ofString "/claim/cut.py") 526)]), #[]⟩
noncomputable def ob161_0 (P : Params) : Obj := ⟨(Value.type "function"), Option.none, (.func ⟨(Str.ofString "_law_written"), (Str.ofString "_law_written"), paramsOf (stAt 40), .stmts (bodyOf (stAt 40)), scopeOf (stAt 40), 3, [], Value.none, Value.none, Value.none, (Value.str (Str.ofString "law_oy0153_01") 515), Option.none, (Value.ref 160), Value.none, 0⟩), #[]⟩
noncomputable def ob145_0 (P : Params) : Obj := ⟨(Value.type "tuple"), Option.none, (.seq #[(Value.str (Str.ofString "mode") 506), (Value.str (Str.ofString "perm") 507), (Value.str (Str.ofString "index") 508), (Value.str (Str.ofString "table") 509), (Value.str (Str.ofString "bit") 510), (Value.str (Str.ofString "char") 511)] 0), #[]⟩
noncomputable def ob153_0 (P : Params) : Obj := ⟨(Value.type "tuple"), Option.none, (.seq #[] 0), #[]⟩
noncomputable def ob165_0 (P : Params) : Obj := ⟨(Value.type "tuple"), Option.none, (.seq #[] 0), #[]⟩
noncomputable def ob149_0 (P : Params) : Obj := ⟨(Value.type "function"), Option.none, (.func ⟨(Str.ofString "filemode"), (Str.ofString "filemode"), paramsOf (stAt 37), .stmts (bodyOf (stAt 37)), scopeOf (stAt 37), 3, [], Value.none, Value.none, Value.none, (Value.str (Str.ofString "cpy313.stat") 430), Option.none, (Value.ref 148), Value.none, 0⟩), #[]⟩
noncomputable def ob157_0 (P : Params) : Obj := ⟨(Value.type "tuple"), Option.none, (.seq #[] 0), #[]⟩
noncomputable def ob160_0 (P : Params) : Obj := ⟨(Value.type "code"), Option.none, (.fields #[(Value.str (Str.ofString "_law_written") 528), (Value.str (Str.ofString "_law_written") 529), (Value.str (Str.ofString "/claim/cut.py") 530), (Value.int (118) 0), (Value.int (1) 0), (Value.int (0) 0), (Value.int (0) 0), (Value.int (3) 0), (Value.ref 157), (Value.bool true), (Value.int (181) 0), (Value.ref 158), Value.none, Value.none, Value.none, (Value.ref 159), (Value.int (531) 0), (Value.int (118) 0), (Value.str (Str.ofString "/claim/cut.py") 532)]), #[]⟩
noncomputable def ob144_0 (P : Params) : Obj := ⟨Value.none, Option.none, (.fields #[]), #[]⟩
noncomputable def ob168_0 (P : Params) : Obj := ⟨(Value.type "function"), Option.none, (.func ⟨(Str.ofString "_law_read"), (Str.ofString "_law_read"), paramsOf (stAt 41), .stmts (bodyOf (stAt 41)), scopeOf (stAt 41), 3, [], Value.none, Value.none, Value.none, (Value.str (Str.ofString "law_oy0153_01") 515), Option.none, (Value.ref 167), Value.none, 0⟩), #[]⟩
noncomputable def ob152_0 (P : Params) : Obj := ⟨(Value.type "tuple"), Option.none, (.seq #[(Value.str (Str.ofString "x") 520), (Value.str (Str.ofString "gaps") 521), (Value.str (Str.ofString "who") 522), (Value.str (Str.ofString "deed") 523), (Value.str (Str.ofString "what") 524)] 0), #[]⟩
noncomputable def ob12_5 (P : Params) : Obj := ⟨Value.none, Option.none, (.fields #[(Value.int (2) 0), (Value.int (23) 0), (Value.ref 19), (Value.int (7) 0), (Value.int (0) 0), (Value.ref 51), (Value.int (9) 0), (Value.int (0) 0), (Value.ref 64), (Value.int (16) 0), (Value.int (0) 0), (Value.ref 71), (Value.int (28) 0), (Value.int (0) 0), (Value.ref 78), (Value.int (36) 0), (Value.int (0) 0), (Value.ref 85), (Value.int (43) 0), (Value.int (0) 0), (Value.ref 92), (Value.int (57) 0), (Value.int (0) 0), (Value.ref 101), (Value.int (70) 0), (Value.int (0) 0), (Value.ref 108), (Value.int (92) 0), (Value.int (0) 0), (Value.ref 148), (Value.int (110) 0), (Value.int (0) 0), (Value.ref 155), (Value.int (118) 0), (Value.int (0) 0), (Value.ref 160), (Value.int (127) 0), (Value.int (0) 0), (Value.ref 167)]), #[]⟩
noncomputable def ob164_0 (P : Params) : Obj := ⟨(Value.type "tuple"), Option.none, (.seq #[(Value.str (Str.ofString "document") 537), (Value.str (Str.ofString "clauses") 538), (Value.str (Str.ofString "place") 539), (Value.str (Str.ofString "mark") 540), (Value.str (Str.ofString "stop") 541), (Value.str (Str.ofString "fault") 542)] 0), #[]⟩
noncomputable def ob148_0 (P : Params) : Obj := ⟨(Value.type "code"), Option.none, (.fields #[(Value.str (Str.ofString "filemode") 503), (Value.str (Str.ofString "filemode") 504), (Value.str (Str.ofString "/claim/cut.py") 505), (Value.int (92) 0), (Value.int (1) 0), (Value.int (0) 0), (Value.int (0) 0), (Value.int (3) 0), (Value.ref 143), (Value.bool true), (Value.int (181) 0), (Value.ref 144), Value.none, (Value.ref 145), (Value.ref 146), (Value.ref 147), (Value.int (512) 0), (Value.int (92) 0), (Value.str (Str.ofString "/claim/cut.py") 513)]), #[]⟩
noncomputable def ob156_0 (P : Params) : Obj := ⟨(Value.type "function"), Option.none, (.func ⟨(Str.ofString "_law_clause"), (Str.ofString "_law_clause"), paramsOf (stAt 39), .stmts (bodyOf (stAt 39)), scopeOf (stAt 39), 3, [], Value.none, Value.none, Value.none, (Value.str (Str.ofString "law_oy0153_01") 515), Option.none, (Value.ref 155), Value.none, 0⟩), #[]⟩
noncomputable def ob162_0 (P : Params) : Obj := ⟨(Value.type "tuple"), Option.none, (.seq #[] 0), #[]⟩
noncomputable def ob146_0 (P : Params) : Obj := ⟨(Value.type "tuple"), Option.none, (.seq #[] 0), #[]⟩
noncomputable def ob154_0 (P : Params) : Obj := ⟨Value.none, Option.none, (.func ⟨(Str.ofString "_law_clause"), (Str.ofString "_law_clause"), paramsOf (stAt 39), .stmts (bodyOf (stAt 39)), scopeOf (stAt 39), 0, [], Value.none, Value.none, Value.none, Value.none, Option.none, Value.none, Value.none, 0⟩), #[]⟩
noncomputable def ob166_0 (P : Params) : Obj := ⟨Value.none, Option.none, (.func ⟨(Str.ofString "_law_read"), (Str.ofString "_law_read"), paramsOf (stAt 41), .stmts (bodyOf (stAt 41)), scopeOf (stAt 41), 0, [], Value.none, Value.none, Value.none, Value.none, Option.none, Value.none, Value.none, 0⟩), #[]⟩
noncomputable def ob150_0 (P : Params) : Obj := ⟨(Value.type "tuple"), Option.none, (.seq #[] 0), #[]⟩
noncomputable def ob158_0 (P : Params) : Obj := ⟨Value.none, Option.none, (.fields #[]), #[]⟩
noncomputable def me49 (P : Params) : DictEntry := ⟨PyData.keyHash P (Str.ofString "_law_worths"), (Value.str (Str.ofString "_law_worths") 552), (Value.ref 175)⟩
noncomputable def me50 (P : Params) : DictEntry := ⟨PyData.keyHash P (Str.ofString "_law_seen"), (Value.str (Str.ofString "_law_seen") 561), (Value.ref 182)⟩
noncomputable def me51 (P : Params) : DictEntry := ⟨PyData.keyHash P (Str.ofString "_law_step"), (Value.str (Str.ofString "_law_step") 567), (Value.ref 187)⟩
noncomputable def me52 (P : Params) : DictEntry := ⟨PyData.keyHash P (Str.ofString "_law_traced"), (Value.str (Str.ofString "_law_traced") 573), (Value.ref 192)⟩
noncomputable def me53 (P : Params) : DictEntry := ⟨PyData.keyHash P (Str.ofString "_law_due"), (Value.str (Str.ofString "_law_due") 579), (Value.ref 197)⟩
noncomputable def ob3_12 (P : Params) : Obj := ⟨(Value.type "dict"), Option.none, (.dict #[me44 P, me1 P, me2 P, me3 P, me4 P, me5 P, me6 P, me7 P, me8 P, me9 P, me10 P, me11 P, me12 P, me13 P, me14 P, me15 P, me16 P, me17 P, me18 P, me19 P, me21 P, me22 P, me23 P, me24 P, me25 P, me26 P, me27 P, me28 P, me29 P, me30 P, me31 P, me32 P, me33 P, me34 P, me35 P, me36 P, me37 P, me38 P, me39 P, me40 P, me41 P, me42 P, me43 P, me45 P, me46 P, me47 P, me48 P, me49 P, me50 P, me51 P, me52 P, me53 P] 52), #[]⟩
noncomputable def ob191_0 (P : Params) : Obj := ⟨(Value.type "code"), Option.none, (.fields #[(Value.str (Str.ofString "_law_traced") 568), (Value.str (Str.ofString "_law_traced") 569), (Value.str (Str.ofString "/claim/cut.py") 570), (Value.int (167) 0), (Value.int (4) 0), (Value.int (0) 0), (Value.int (0) 0), (Value.int (3) 0), (Value.ref 188), (Value.bool true), (Value.int (181) 0), (Value.ref 189), Value.none, Value.none, Value.none, (Value.ref 190), (Value.int (571) 0), (Value.int (167) 0), (Value.str (Str.ofString "/claim/cut.py") 572)]), #[]⟩
noncomputable def ob175_0 (P : Params) : Obj := ⟨(Value.type "function"), Option.none, (.func ⟨(Str.ofString "_law_worths"), (Str.ofString "_law_worths"), paramsOf (stAt 42), .stmts (bodyOf (stAt 42)), scopeOf (stAt 42), 3, [], Value.none, Value.none, Value.none, (Value.str (Str.ofString "law_oy0153_01") 515), Option.none, (Value.ref 174), Value.none, 0⟩), #[]⟩
noncomputable def ob183_0 (P : Params) : Obj := ⟨(Value.type "tuple"), Option.none, (.seq #[] 0), #[]⟩
noncomputable def ob195_0 (P : Params) : Obj := ⟨Value.none, Option.none, (.func ⟨(Str.ofString "_law_due"), (Str.ofString "_law_due"), paramsOf (stAt 46), .stmts (bodyOf (stAt 46)), scopeOf (stAt 46), 0, [], Value.none, Value.none, Value.none, Value.none, Option.none, Value.none, Value.none, 0⟩), #[]⟩
noncomputable def ob179_0 (P : Params) : Obj := ⟨(Value.type "tuple"), Option.none, (.seq #[] 0), #[]⟩
noncomputable def ob171_0 (P : Params) : Obj := ⟨(Value.type "tuple"), Option.none, (.seq #[(Value.str (Str.ofString "c") 549)] 0), #[]⟩
noncomputable def ob187_0 (P : Params) : Obj := ⟨(Value.type "function"), Option.none, (.func ⟨(Str.ofString "_law_step"), (Str.ofString "_law_step"), paramsOf (stAt 44), .stmts (bodyOf (stAt 44)), scopeOf (stAt 44), 3, [], Value.none, Value.none, Value.none, (Value.str (Str.ofString "law_oy0153_01") 515), Option.none, (Value.ref 186), Value.none, 0⟩), #[]⟩
noncomputable def ob193_0 (P : Params) : Obj := ⟨(Value.type "tuple"), Option.none, (.seq #[] 0), #[]⟩
noncomputable def ob177_0 (P : Params) : Obj := ⟨Value.none, Option.none, (.fields #[]), #[]⟩
noncomputable def ob169_0 (P : Params) : Obj := ⟨(Value.type "tuple"), Option.none, (.seq #[] 0), #[]⟩
noncomputable def ob185_0 (P : Params) : Obj := ⟨Value.none, Option.none, (.func ⟨(Str.ofString "_law_step"), (Str.ofString "_law_step"), paramsOf (stAt 44), .stmts (bodyOf (stAt 44)), scopeOf (stAt 44), 0, [], Value.none, Value.none, Value.none, Value.none, Option.none, Value.none, Value.none, 0⟩), #[]⟩
noncomputable def ob197_0 (P : Params) : Obj := ⟨(Value.type "function"), Option.none, (.func ⟨(Str.ofString "_law_due"), (Str.ofString "_law_due"), paramsOf (stAt 46), .stmts (bodyOf (stAt 46)), scopeOf (stAt 46), 3, [], Value.none, Value.none, Value.none, (Value.str (Str.ofString "law_oy0153_01") 515), Option.none, (Value.ref 196), Value.none, 0⟩), #[]⟩
noncomputable def ob181_0 (P : Params) : Obj := ⟨(Value.type "code"), Option.none, (.fields #[(Value.str (Str.ofString "_law_seen") 553), (Value.str (Str.ofString "_law_seen") 554), (Value.str (Str.ofString "/claim/cut.py") 555), (Value.int (143) 0), (Value.int (2) 0), (Value.int (0) 0), (Value.int (0) 0), (Value.int (3) 0), (Value.ref 176), (Value.bool true), (Value.int (181) 0), (Value.ref 177), Value.none, (Value.ref 178), (Value.ref 179), (Value.ref 180), (Value.int (559) 0), (Value.int (143) 0), (Value.str (Str.ofString "/claim/cut.py") 560)]), #[]⟩
noncomputable def ob173_0 (P : Params) : Obj := ⟨Value.none, Option.none, (.func ⟨(Str.ofString "_law_worths"), (Str.ofString "_law_worths"), paramsOf (stAt 42), .stmts (bodyOf (stAt 42)), scopeOf (stAt 42), 0, [], Value.none, Value.none, Value.none, Value.none, Option.none, Value.none, Value.none, 0⟩), #[]⟩
noncomputable def ob189_0 (P : Params) : Obj := ⟨Value.none, Option.none, (.fields #[]), #[]⟩
noncomputable def ob192_0 (P : Params) : Obj := ⟨(Value.type "function"), Option.none, (.func ⟨(Str.ofString "_law_traced"), (Str.ofString "_law_traced"), paramsOf (stAt 45), .stmts (bodyOf (stAt 45)), scopeOf (stAt 45), 3, [], Value.none, Value.none, Value.none, (Value.str (Str.ofString "law_oy0153_01") 515), Option.none, (Value.ref 191), Value.none, 0⟩), #[]⟩
noncomputable def ob176_0 (P : Params) : Obj := ⟨(Value.type "tuple"), Option.none, (.seq #[] 0), #[]⟩
noncomputable def ob184_0 (P : Params) : Obj := ⟨Value.none, Option.none, (.fields #[]), #[]⟩
noncomputable def ob12_6 (P : Params) : Obj := ⟨Value.none, Option.none, (.fields #[(Value.int (2) 0), (Value.int (23) 0), (Value.ref 19), (Value.int (7) 0), (Value.int (0) 0), (Value.ref 51), (Value.int (9) 0), (Value.int (0) 0), (Value.ref 64), (Value.int (16) 0), (Value.int (0) 0), (Value.ref 71), (Value.int (28) 0), (Value.int (0) 0), (Value.ref 78), (Value.int (36) 0), (Value.int (0) 0), (Value.ref 85), (Value.int (43) 0), (Value.int (0) 0), (Value.ref 92), (Value.int (57) 0), (Value.int (0) 0), (Value.ref 101), (Value.int (70) 0), (Value.int (0) 0), (Value.ref 108), (Value.int (92) 0), (Value.int (0) 0), (Value.ref 148), (Value.int (110) 0), (Value.int (0) 0), (Value.ref 155), (Value.int (118) 0), (Value.int (0) 0), (Value.ref 160), (Value.int (127) 0), (Value.int (0) 0), (Value.ref 167), (Value.int (141) 0), (Value.int (0) 0), (Value.ref 174), (Value.int (143) 0), (Value.int (0) 0), (Value.ref 181), (Value.int (146) 0), (Value.int (0) 0), (Value.ref 186), (Value.int (167) 0), (Value.int (0) 0), (Value.ref 191), (Value.int (188) 0), (Value.int (0) 0), (Value.ref 196)]), #[]⟩
noncomputable def ob196_0 (P : Params) : Obj := ⟨(Value.type "code"), Option.none, (.fields #[(Value.str (Str.ofString "_law_due") 574), (Value.str (Str.ofString "_law_due") 575), (Value.str (Str.ofString "/claim/cut.py") 576), (Value.int (188) 0), (Value.int (2) 0), (Value.int (0) 0), (Value.int (0) 0), (Value.int (3) 0), (Value.ref 193), (Value.bool true), (Value.int (181) 0), (Value.ref 194), Value.none, Value.none, Value.none, (Value.ref 195), (Value.int (577) 0), (Value.int (188) 0), (Value.str (Str.ofString "/claim/cut.py") 578)]), #[]⟩
noncomputable def ob180_0 (P : Params) : Obj := ⟨Value.none, Option.none, (.func ⟨(Str.ofString "_law_seen"), (Str.ofString "_law_seen"), paramsOf (stAt 43), .stmts (bodyOf (stAt 43)), scopeOf (stAt 43), 0, [], Value.none, Value.none, Value.none, Value.none, Option.none, Value.none, Value.none, 0⟩), #[]⟩
noncomputable def ob172_0 (P : Params) : Obj := ⟨(Value.type "tuple"), Option.none, (.seq #[] 0), #[]⟩
noncomputable def ob188_0 (P : Params) : Obj := ⟨(Value.type "tuple"), Option.none, (.seq #[] 0), #[]⟩
noncomputable def ob194_0 (P : Params) : Obj := ⟨Value.none, Option.none, (.fields #[]), #[]⟩
noncomputable def ob178_0 (P : Params) : Obj := ⟨(Value.type "tuple"), Option.none, (.seq #[(Value.str (Str.ofString "signs") 556), (Value.str (Str.ofString "c") 557), (Value.str (Str.ofString "three") 558)] 0), #[]⟩
noncomputable def ob170_0 (P : Params) : Obj := ⟨Value.none, Option.none, (.fields #[]), #[]⟩
noncomputable def ob186_0 (P : Params) : Obj := ⟨(Value.type "code"), Option.none, (.fields #[(Value.str (Str.ofString "_law_step") 562), (Value.str (Str.ofString "_law_step") 563), (Value.str (Str.ofString "/claim/cut.py") 564), (Value.int (146) 0), (Value.int (2) 0), (Value.int (0) 0), (Value.int (0) 0), (Value.int (3) 0), (Value.ref 183), (Value.bool true), (Value.int (181) 0), (Value.ref 184), Value.none, Value.none, Value.none, (Value.ref 185), (Value.int (565) 0), (Value.int (146) 0), (Value.str (Str.ofString "/claim/cut.py") 566)]), #[]⟩
noncomputable def ob182_0 (P : Params) : Obj := ⟨(Value.type "function"), Option.none, (.func ⟨(Str.ofString "_law_seen"), (Str.ofString "_law_seen"), paramsOf (stAt 43), .stmts (bodyOf (stAt 43)), scopeOf (stAt 43), 3, [], Value.none, Value.none, Value.none, (Value.str (Str.ofString "law_oy0153_01") 515), Option.none, (Value.ref 181), Value.none, 0⟩), #[]⟩
noncomputable def ob174_0 (P : Params) : Obj := ⟨(Value.type "code"), Option.none, (.fields #[(Value.str (Str.ofString "_law_worths") 546), (Value.str (Str.ofString "_law_worths") 547), (Value.str (Str.ofString "/claim/cut.py") 548), (Value.int (141) 0), (Value.int (1) 0), (Value.int (0) 0), (Value.int (0) 0), (Value.int (3) 0), (Value.ref 169), (Value.bool true), (Value.int (181) 0), (Value.ref 170), Value.none, (Value.ref 171), (Value.ref 172), (Value.ref 173), (Value.int (550) 0), (Value.int (141) 0), (Value.str (Str.ofString "/claim/cut.py") 551)]), #[]⟩
noncomputable def ob190_0 (P : Params) : Obj := ⟨Value.none, Option.none, (.func ⟨(Str.ofString "_law_traced"), (Str.ofString "_law_traced"), paramsOf (stAt 45), .stmts (bodyOf (stAt 45)), scopeOf (stAt 45), 0, [], Value.none, Value.none, Value.none, Value.none, Option.none, Value.none, Value.none, 0⟩), #[]⟩
noncomputable def me54 (P : Params) : DictEntry := ⟨PyData.keyHash P (Str.ofString "_law_spot"), (Value.str (Str.ofString "_law_spot") 587), (Value.ref 204)⟩
noncomputable def me55 (P : Params) : DictEntry := ⟨PyData.keyHash P (Str.ofString "_law_fault"), (Value.str (Str.ofString "_law_fault") 600), (Value.ref 211)⟩
noncomputable def me56 (P : Params) : DictEntry := ⟨PyData.keyHash P (Str.ofString "law"), (Value.str (Str.ofString "law") 606), (Value.ref 216)⟩
noncomputable def ob3_13 (P : Params) : Obj := ⟨(Value.type "dict"), Option.none, (.dict #[me44 P, me1 P, me2 P, me3 P, me4 P, me5 P, me6 P, me7 P, me8 P, me9 P, me10 P, me11 P, me12 P, me13 P, me14 P, me15 P, me16 P, me17 P, me18 P, me19 P, me21 P, me22 P, me23 P, me24 P, me25 P, me26 P, me27 P, me28 P, me29 P, me30 P, me31 P, me32 P, me33 P, me34 P, me35 P, me36 P, me37 P, me38 P, me39 P, me40 P, me41 P, me42 P, me43 P, me45 P, me46 P, me47 P, me48 P, me49 P, me50 P, me51 P, me52 P, me53 P, me54 P, me55 P, me56 P] 55), #[]⟩
noncomputable def ob207_0 (P : Params) : Obj := ⟨(Value.type "tuple"), Option.none, (.seq #[(Value.str (Str.ofString "clauses") 591), (Value.str (Str.ofString "line") 592), (Value.str (Str.ofString "column") 593), (Value.str (Str.ofString "count") 594), (Value.str (Str.ofString "clause") 595), (Value.str (Str.ofString "gap") 596), (Value.str (Str.ofString "sign") 597)] 0), #[]⟩
noncomputable def ob199_0 (P : Params) : Obj := ⟨Value.none, Option.none, (.fields #[]), #[]⟩
noncomputable def ob215_0 (P : Params) : Obj := ⟨(Value.type "code"), Option.none, (.fields #[(Value.str (Str.ofString "law") 601), (Value.str (Str.ofString "law") 602), (Value.str (Str.ofString "/claim/cut.py") 603), (Value.int (218) 0), (Value.int (1) 0), (Value.int (0) 0), (Value.int (0) 0), (Value.int (3) 0), (Value.ref 212), (Value.bool true), (Value.int (181) 0), (Value.ref 213), Value.none, Value.none, Value.none, (Value.ref 214), (Value.int (604) 0), (Value.int (218) 0), (Value.str (Str.ofString "/claim/cut.py") 605)]), #[]⟩
noncomputable def ob211_0 (P : Params) : Obj := ⟨(Value.type "function"), Option.none, (.func ⟨(Str.ofString "_law_fault"), (Str.ofString "_law_fault"), paramsOf (stAt 48), .stmts (bodyOf (stAt 48)), scopeOf (stAt 48), 3, [], Value.none, Value.none, Value.none, (Value.str (Str.ofString "law_oy0153_01") 515), Option.none, (Value.ref 210), Value.none, 0⟩), #[]⟩
noncomputable def ob203_0 (P : Params) : Obj := ⟨(Value.type "code"), Option.none, (.fields #[(Value.str (Str.ofString "_law_spot") 580), (Value.str (Str.ofString "_law_spot") 581), (Value.str (Str.ofString "/claim/cut.py") 582), (Value.int (198) 0), (Value.int (2) 0), (Value.int (0) 0), (Value.int (0) 0), (Value.int (3) 0), (Value.ref 198), (Value.bool true), (Value.int (181) 0), (Value.ref 199), Value.none, (Value.ref 200), (Value.ref 201), (Value.ref 202), (Value.int (585) 0), (Value.int (198) 0), (Value.str (Str.ofString "/claim/cut.py") 586)]), #[]⟩
noncomputable def ob209_0 (P : Params) : Obj := ⟨Value.none, Option.none, (.func ⟨(Str.ofString "_law_fault"), (Str.ofString "_law_fault"), paramsOf (stAt 48), .stmts (bodyOf (stAt 48)), scopeOf (stAt 48), 0, [], Value.none, Value.none, Value.none, Value.none, Option.none, Value.none, Value.none, 0⟩), #[]⟩
noncomputable def ob201_0 (P : Params) : Obj := ⟨(Value.type "tuple"), Option.none, (.seq #[] 0), #[]⟩
noncomputable def ob213_0 (P : Params) : Obj := ⟨Value.none, Option.none, (.fields #[]), #[]⟩
noncomputable def ob205_0 (P : Params) : Obj := ⟨(Value.type "tuple"), Option.none, (.seq #[] 0), #[]⟩
noncomputable def ob208_0 (P : Params) : Obj := ⟨(Value.type "tuple"), Option.none, (.seq #[] 0), #[]⟩
noncomputable def ob200_0 (P : Params) : Obj := ⟨(Value.type "tuple"), Option.none, (.seq #[(Value.str (Str.ofString "line") 583), (Value.str (Str.ofString "column") 584)] 0), #[]⟩
noncomputable def ob216_0 (P : Params) : Obj := ⟨(Value.type "function"), Option.none, (.func ⟨(Str.ofString "law"), (Str.ofString "law"), paramsOf (stAt 49), .stmts (bodyOf (stAt 49)), scopeOf (stAt 49), 3, [], Value.none, Value.none, Value.none, (Value.str (Str.ofString "law_oy0153_01") 515), Option.none, (Value.ref 215), Value.none, 0⟩), #[]⟩
noncomputable def ob12_7 (P : Params) : Obj := ⟨Value.none, Option.none, (.fields #[(Value.int (2) 0), (Value.int (23) 0), (Value.ref 19), (Value.int (7) 0), (Value.int (0) 0), (Value.ref 51), (Value.int (9) 0), (Value.int (0) 0), (Value.ref 64), (Value.int (16) 0), (Value.int (0) 0), (Value.ref 71), (Value.int (28) 0), (Value.int (0) 0), (Value.ref 78), (Value.int (36) 0), (Value.int (0) 0), (Value.ref 85), (Value.int (43) 0), (Value.int (0) 0), (Value.ref 92), (Value.int (57) 0), (Value.int (0) 0), (Value.ref 101), (Value.int (70) 0), (Value.int (0) 0), (Value.ref 108), (Value.int (92) 0), (Value.int (0) 0), (Value.ref 148), (Value.int (110) 0), (Value.int (0) 0), (Value.ref 155), (Value.int (118) 0), (Value.int (0) 0), (Value.ref 160), (Value.int (127) 0), (Value.int (0) 0), (Value.ref 167), (Value.int (141) 0), (Value.int (0) 0), (Value.ref 174), (Value.int (143) 0), (Value.int (0) 0), (Value.ref 181), (Value.int (146) 0), (Value.int (0) 0), (Value.ref 186), (Value.int (167) 0), (Value.int (0) 0), (Value.ref 191), (Value.int (188) 0), (Value.int (0) 0), (Value.ref 196), (Value.int (198) 0), (Value.int (0) 0), (Value.ref 203), (Value.int (200) 0), (Value.int (0) 0), (Value.ref 210), (Value.int (218) 0), (Value.int (0) 0), (Value.ref 215)]), #[]⟩
noncomputable def ob212_0 (P : Params) : Obj := ⟨(Value.type "tuple"), Option.none, (.seq #[] 0), #[]⟩
noncomputable def ob204_0 (P : Params) : Obj := ⟨(Value.type "function"), Option.none, (.func ⟨(Str.ofString "_law_spot"), (Str.ofString "_law_spot"), paramsOf (stAt 47), .stmts (bodyOf (stAt 47)), scopeOf (stAt 47), 3, [], Value.none, Value.none, Value.none, (Value.str (Str.ofString "law_oy0153_01") 515), Option.none, (Value.ref 203), Value.none, 0⟩), #[]⟩
noncomputable def ob210_0 (P : Params) : Obj := ⟨(Value.type "code"), Option.none, (.fields #[(Value.str (Str.ofString "_law_fault") 588), (Value.str (Str.ofString "_law_fault") 589), (Value.str (Str.ofString "/claim/cut.py") 590), (Value.int (200) 0), (Value.int (1) 0), (Value.int (0) 0), (Value.int (0) 0), (Value.int (3) 0), (Value.ref 205), (Value.bool true), (Value.int (181) 0), (Value.ref 206), Value.none, (Value.ref 207), (Value.ref 208), (Value.ref 209), (Value.int (598) 0), (Value.int (200) 0), (Value.str (Str.ofString "/claim/cut.py") 599)]), #[]⟩
noncomputable def ob202_0 (P : Params) : Obj := ⟨Value.none, Option.none, (.func ⟨(Str.ofString "_law_spot"), (Str.ofString "_law_spot"), paramsOf (stAt 47), .stmts (bodyOf (stAt 47)), scopeOf (stAt 47), 0, [], Value.none, Value.none, Value.none, Value.none, Option.none, Value.none, Value.none, 0⟩), #[]⟩
noncomputable def ob198_0 (P : Params) : Obj := ⟨(Value.type "tuple"), Option.none, (.seq #[] 0), #[]⟩
noncomputable def ob214_0 (P : Params) : Obj := ⟨Value.none, Option.none, (.func ⟨(Str.ofString "law"), (Str.ofString "law"), paramsOf (stAt 49), .stmts (bodyOf (stAt 49)), scopeOf (stAt 49), 0, [], Value.none, Value.none, Value.none, Value.none, Option.none, Value.none, Value.none, 0⟩), #[]⟩
noncomputable def ob206_0 (P : Params) : Obj := ⟨Value.none, Option.none, (.fields #[]), #[]⟩
noncomputable def tg_p2 (P : Params)  : BT := (.node (boot_o_0 P) (.node (boot_o_1 P) (.node (ob3_2 P) (.node (boot_o_7 P) (.node (ob15_0 P) (.node (fo (d31 P)) .nil .nil) .nil) (.node (ob23_0 P) .nil .nil)) (.node (ob11_0 P) (.node (ob19_0 P) (.node (ob35_0 P) .nil .nil) .nil) (.node (fo (d27 P)) .nil .nil))) (.node (boot_o_5 P) (.node (boot_o_9 P) (.node (ob17_0 P) (.node (ob33_1 P) .nil .nil) .nil) (.node (ob25_0 P) .nil .nil)) (.node (ob13_0 P) (.node (ob21_0 P) .nil .nil) (.node (ob29_0 P) .nil .nil)))) (.node (boot_o_2 P) (.node (boot_o_4 P) (.node (boot_o_8 P) (.node (ob16_0 P) (.node (fo (d32 P)) .nil .nil) .nil) (.node (ob24_0 P) .nil .nil)) (.node (ob12_1 P) (.node (ob20_0 P) (.node (fo (d36 P)) .nil .nil) .nil) (.node (ob28_1 P) .nil .nil))) (.node (boot_o_6 P) (.node (boot_o_10 P) (.node (ob18_0 P) (.node (ob34_0 P) .nil .nil) .nil) (.node (ob26_0 P) .nil .nil)) (.node (ob14_0 P) (.node (fo (d22 P 32)) .nil .nil) (.node (ob30_0 P) .nil .nil)))))
noncomputable def tg_p3 (P : Params)  : BT := (.node (boot_o_0 P) (.node (boot_o_1 P) (.node (ob3_3 P) (.node (boot_o_7 P) (.node (ob15_0 P) (.node (fo (d31 P)) .nil .nil) .nil) (.node (ob23_0 P) .nil .nil)) (.node (ob11_0 P) (.node (ob19_0 P) (.node (ob35_0 P) .nil .nil) .nil) (.node (fo (d27 P)) .nil .nil))) (.node (boot_o_5 P) (.node (boot_o_9 P) (.node (ob17_0 P) (.node (ob33_1 P) .nil .nil) .nil) (.node (ob25_0 P) .nil .nil)) (.node (ob13_0 P) (.node (ob21_0 P) .nil .nil) (.node (ob29_0 P) .nil .nil)))) (.node (boot_o_2 P) (.node (boot_o_4 P) (.node (boot_o_8 P) (.node (ob16_0 P) (.node (fo (d32 P)) .nil .nil) .nil) (.node (ob24_0 P) .nil .nil)) (.node (ob12_1 P) (.node (ob20_0 P) (.node (fo (d36 P)) .nil .nil) .nil) (.node (ob28_1 P) .nil .nil))) (.node (boot_o_6 P) (.node (boot_o_10 P) (.node (ob18_0 P) (.node (ob34_0 P) .nil .nil) .nil) (.node (ob26_0 P) .nil .nil)) (.node (ob14_0 P) (.node (fo (d22 P 32)) .nil .nil) (.node (ob30_0 P) .nil .nil)))))
theorem k_g3 (w : World) (os : OsState) : segRunT treeTable prg w 11 ANN 1 11 ⟨tg_p2 w.params, 37, {}, #[.finished], {}, 337, os⟩ (piecesOf [stAt 3] envT cT ⟨3, 0, 3, 23⟩ BT0) = some (.next, ⟨tg_p3 w.params, 37, {}, #[.finished], {}, 338, os⟩, cT, ⟨4, 0, 4, 21⟩) := by kernel_rfl
noncomputable def tg_p5 (P : Params)  : BT := (.node (boot_o_0 P) (.node (boot_o_1 P) (.node (ob3_5 P) (.node (boot_o_7 P) (.node (ob15_0 P) (.node (fo (d31 P)) .nil .nil) .nil) (.node (ob23_0 P) (.node (ob39_0 P) .nil .nil) .nil)) (.node (ob11_0 P) (.node (ob19_0 P) (.node (ob35_0 P) .nil .nil) .nil) (.node (fo (d27 P)) (.node (ob43_0 P) .nil .nil) .nil))) (.node (boot_o_5 P) (.node (boot_o_9 P) (.node (ob17_0 P) (.node (ob33_1 P) .nil .nil) .nil) (.node (ob25_0 P) (.node (fo (d41 P)) .nil .nil) .nil)) (.node (ob13_0 P) (.node (ob21_0 P) (.node (fo (d37 P)) .nil .nil) .nil) (.node (ob29_0 P) (.node (fo (d45 P)) .nil .nil) .nil)))) (.node (boot_o_2 P) (.node (boot_o_4 P) (.node (boot_o_8 P) (.node (ob16_0 P) (.node (fo (d32 P)) .nil .nil) .nil) (.node (ob24_0 P) (.node (ob40_0 P) .nil .nil) .nil)) (.node (ob12_1 P) (.node (ob20_0 P) (.node (fo (d36 P)) .nil .nil) .nil) (.node (ob28_1 P) (.node (ob44_0 P) .nil .nil) .nil))) (.node (boot_o_6 P) (.node (boot_o_10 P) (.node (ob18_0 P) (.node (ob34_0 P) .nil .nil) .nil) (.node (ob26_0 P) (.node (ob42_1 P) .nil .nil) .nil)) (.node (ob14_0 P) (.node (fo (d22 P 32)) (.node (ob38_2 P) .nil .nil) .nil) (.node (ob30_0 P) .nil .nil)))))
noncomputable def tg_p6 (P : Params)  : BT := (.node (boot_o_0 P) (.node (boot_o_1 P) (.node (ob3_6 P) (.node (boot_o_7 P) (.node (ob15_0 P) (.node (fo (d31 P)) .nil .nil) (.node (ob47_0 P) .nil .nil)) (.node (ob23_0 P) (.node (ob39_0 P) .nil .nil) (.node (ob55_0 P) .nil .nil))) (.node (ob11_0 P) (.node (ob19_0 P) (.node (ob35_0 P) .nil .nil) (.node (ob51_0 P) .nil .nil)) (.node (fo (d27 P)) (.node (ob43_0 P) .nil .nil) .nil))) (.node (boot_o_5 P) (.node (boot_o_9 P) (.node (ob17_0 P) (.node (ob33_1 P) .nil .nil) (.node (ob49_0 P) .nil .nil)) (.node (ob25_0 P) (.node (fo (d41 P)) .nil .nil) (.node (ob57_0 P) .nil .nil))) (.node (ob13_0 P) (.node (ob21_0 P) (.node (fo (d37 P)) .nil .nil) (.node (ob53_0 P) .nil .nil)) (.node (ob29_0 P) (.node (fo (d45 P)) .nil .nil) .nil)))) (.node (boot_o_2 P) (.node (boot_o_4 P) (.node (boot_o_8 P) (.node (ob16_0 P) (.node (fo (d32 P)) .nil .nil) (.node (ob48_0 P) .nil .nil)) (.node (ob24_0 P) (.node (ob40_0 P) .nil .nil) (.node (ob56_0 P) .nil .nil))) (.node (ob12_2 P) (.node (ob20_0 P) (.node (fo (d36 P)) .nil .nil) (.node (ob52_0 P) .nil .nil)) (.node (ob28_1 P) (.node (ob44_0 P) .nil .nil) .nil))) (.node (boot_o_6 P) (.node (boot_o_10 P) (.node (ob18_0 P) (.node (ob34_0 P) .nil .nil) (.node (ob50_0 P) .nil .nil)) (.node (ob26_0 P) (.node (ob42_1 P) .nil .nil) (.node (ob58_0 P) .nil .nil))) (.node (ob14_0 P) (.node (fo (d22 P 32)) (.node (ob38_2 P) .nil .nil) (.node (ob54_0 P) .nil .nil)) (.node (ob30_0 P) (.node (ob46_0 P) .nil .nil) .nil)))))
theorem k_g6 (w : World) (os : OsState) : segRunT treeTable prg w 11 ANN 1 187 ⟨tg_p5 w.params, 46, {}, #[.finished], {}, 348, os⟩ (piecesOf [stAt 6] envT cT ⟨6, 0, 6, 19⟩ BT0) = some (.next, ⟨tg_p6 w.params, 59, {}, #[.finished], {}, 366, os⟩, cT, ⟨7, 0, 8, 8⟩) := by kernel_rfl
noncomputable def tg_p11 (P : Params)  : BT := (.node (boot_o_0 P) (.node (boot_o_1 P) (.node (ob3_7 P) (.node (boot_o_7 P) (.node (ob15_0 P) (.node (fo (d31 P)) (.node (ob63_0 P) .nil .nil) .nil) (.node (ob47_0 P) (.node (ob79_0 P) .nil .nil) .nil)) (.node (ob23_0 P) (.node (ob39_0 P) (.node (ob71_0 P) .nil .nil) .nil) (.node (ob55_0 P) (.node (ob87_0 P) .nil .nil) .nil))) (.node (ob11_0 P) (.node (ob19_0 P) (.node (ob35_0 P) (.node (ob67_0 P) .nil .nil) .nil) (.node (ob51_0 P) (.node (ob83_0 P) .nil .nil) .nil)) (.node (fo (d27 P)) (.node (ob43_0 P) (.node (ob75_0 P) .nil .nil) .nil) (.node (ob59_0 P) (.node (ob91_0 P) .nil .nil) .nil)))) (.node (boot_o_5 P) (.node (boot_o_9 P) (.node (ob17_0 P) (.node (ob33_1 P) (.node (ob65_0 P) .nil .nil) .nil) (.node (ob49_0 P) (.node (ob81_0 P) .nil .nil) .nil)) (.node (ob25_0 P) (.node (fo (d41 P)) (.node (ob73_0 P) .nil .nil) .nil) (.node (ob57_0 P) (.node (ob89_0 P) .nil .nil) .nil))) (.node (ob13_0 P) (.node (ob21_0 P) (.node (fo (d37 P)) (.node (ob69_0 P) .nil .nil) .nil) (.node (ob53_0 P) (.node (ob85_0 P) .nil .nil) .nil)) (.node (ob29_0 P) (.node (fo (d45 P)) (.node (ob77_0 P) .nil .nil) .nil) (.node (ob61_0 P) (.node (ob93_0 P) .nil .nil) .nil))))) (.node (boot_o_2 P) (.node (boot_o_4 P) (.node (boot_o_8 P) (.node (ob16_0 P) (.node (fo (d32 P)) (.node (ob64_0 P) .nil .nil) .nil) (.node (ob48_0 P) (.node (ob80_0 P) .nil .nil) .nil)) (.node (ob24_0 P) (.node (ob40_0 P) (.node (ob72_0 P) .nil .nil) .nil) (.node (ob56_0 P) (.node (ob88_0 P) .nil .nil) .nil))) (.node (ob12_3 P) (.node (ob20_0 P) (.node (fo (d36 P)) (.node (ob68_0 P) .nil .nil) .nil) (.node (ob52_0 P) (.node (ob84_0 P) .nil .nil) .nil)) (.node (ob28_1 P) (.node (ob44_0 P) (.node (ob76_0 P) .nil .nil) .nil) (.node (ob60_0 P) (.node (ob92_0 P) .nil .nil) .nil)))) (.node (boot_o_6 P) (.node (boot_o_10 P) (.node (ob18_0 P) (.node (ob34_0 P) (.node (ob66_0 P) .nil .nil) .nil) (.node (ob50_0 P) (.node (ob82_0 P) .nil .nil) .nil)) (.node (ob26_0 P) (.node (ob42_1 P) (.node (ob74_0 P) .nil .nil) .nil) (.node (ob58_0 P) (.node (ob90_0 P) .nil .nil) .nil))) (.node (ob14_0 P) (.node (fo (d22 P 32)) (.node (ob38_2 P) (.node (ob70_0 P) .nil .nil) .nil) (.node (ob54_0 P) (.node (ob86_0 P) .nil .nil) .nil)) (.node (ob30_0 P) (.node (ob46_0 P) (.node (ob78_0 P) .nil .nil) .nil) (.node (ob62_0 P) .nil .nil))))))
theorem k_g7 (w : World) (os : OsState) : segRunT treeTable prg w 11 ANN 1 160 ⟨tg_p6 w.params, 59, {}, #[.finished], {}, 366, os⟩ (piecesOf [stAt 7, stAt 8, stAt 9, stAt 10, stAt 11] envT cT ⟨7, 0, 8, 8⟩ BT0) = some (.next, ⟨tg_p11 w.params, 94, {}, #[.finished], {}, 415, os⟩, cT, ⟨43, 0, 54, 64⟩) := by kernel_rfl
noncomputable def tg_p16 (P : Params)  : BT := (.node (boot_o_0 P) (.node (boot_o_1 P) (.node (ob3_8 P) (.node (boot_o_7 P) (.node (ob15_0 P) (.node (fo (d31 P)) (.node (ob63_0 P) .nil .nil) (.node (ob95_0 P) .nil .nil)) (.node (ob47_0 P) (.node (ob79_0 P) .nil .nil) .nil)) (.node (ob23_0 P) (.node (ob39_0 P) (.node (ob71_0 P) .nil .nil) (.node (ob103_0 P) .nil .nil)) (.node (ob55_0 P) (.node (ob87_0 P) .nil .nil) .nil))) (.node (ob11_0 P) (.node (ob19_0 P) (.node (ob35_0 P) (.node (ob67_0 P) .nil .nil) (.node (ob99_0 P) .nil .nil)) (.node (ob51_0 P) (.node (ob83_0 P) .nil .nil) .nil)) (.node (fo (d27 P)) (.node (ob43_0 P) (.node (ob75_0 P) .nil .nil) (.node (ob107_0 P) .nil .nil)) (.node (ob59_0 P) (.node (ob91_0 P) .nil .nil) .nil)))) (.node (boot_o_5 P) (.node (boot_o_9 P) (.node (ob17_0 P) (.node (ob33_1 P) (.node (ob65_0 P) .nil .nil) (.node (ob97_0 P) .nil .nil)) (.node (ob49_0 P) (.node (ob81_0 P) .nil .nil) .nil)) (.node (ob25_0 P) (.node (fo (d41 P)) (.node (ob73_0 P) .nil .nil) (.node (ob105_0 P) .nil .nil)) (.node (ob57_0 P) (.node (ob89_0 P) .nil .nil) .nil))) (.node (ob13_0 P) (.node (ob21_0 P) (.node (fo (d37 P)) (.node (ob69_0 P) .nil .nil) (.node (ob101_0 P) .nil .nil)) (.node (ob53_0 P) (.node (ob85_0 P) .nil .nil) .nil)) (.node (ob29_0 P) (.node (fo (d45 P)) (.node (ob77_0 P) .nil .nil) (.node (ob109_0 P) .nil .nil)) (.node (ob61_0 P) (.node (ob93_0 P) .nil .nil) .nil))))) (.node (boot_o_2 P) (.node (boot_o_4 P) (.node (boot_o_8 P) (.node (ob16_0 P) (.node (fo (d32 P)) (.node (ob64_0 P) .nil .nil) (.node (ob96_0 P) .nil .nil)) (.node (ob48_0 P) (.node (ob80_0 P) .nil .nil) .nil)) (.node (ob24_0 P) (.node (ob40_0 P) (.node (ob72_0 P) .nil .nil) (.node (ob104_0 P) .nil .nil)) (.node (ob56_0 P) (.node (ob88_0 P) .nil .nil) .nil))) (.node (ob12_4 P) (.node (ob20_0 P) (.node (fo (d36 P)) (.node (ob68_0 P) .nil .nil) (.node (ob100_0 P) .nil .nil)) (.node (ob52_0 P) (.node (ob84_0 P) .nil .nil) .nil)) (.node (ob28_1 P) (.node (ob44_0 P) (.node (ob76_0 P) .nil .nil) (.node (ob108_0 P) .nil .nil)) (.node (ob60_0 P) (.node (ob92_0 P) .nil .nil) .nil)))) (.node (boot_o_6 P) (.node (boot_o_10 P) (.node (ob18_0 P) (.node (ob34_0 P) (.node (ob66_0 P) .nil .nil) (.node (ob98_0 P) .nil .nil)) (.node (ob50_0 P) (.node (ob82_0 P) .nil .nil) .nil)) (.node (ob26_0 P) (.node (ob42_1 P) (.node (ob74_0 P) .nil .nil) (.node (ob106_0 P) .nil .nil)) (.node (ob58_0 P) (.node (ob90_0 P) .nil .nil) .nil))) (.node (ob14_0 P) (.node (fo (d22 P 32)) (.node (ob38_2 P) (.node (ob70_0 P) .nil .nil) (.node (ob102_0 P) .nil .nil)) (.node (ob54_0 P) (.node (ob86_0 P) .nil .nil) .nil)) (.node (ob30_0 P) (.node (ob46_0 P) (.node (ob78_0 P) .nil .nil) .nil) (.node (ob62_0 P) (.node (ob94_0 P) .nil .nil) .nil))))))
theorem k_g12 (w : World) (os : OsState) : segRunT treeTable prg w 11 ANN 1 111 ⟨tg_p11 w.params, 94, {}, #[.finished], {}, 415, os⟩ (piecesOf [stAt 12, stAt 13, stAt 14, stAt 15, stAt 16] envT cT ⟨43, 0, 54, 64⟩ BT0) = some (.next, ⟨tg_p16 w.params, 110, {}, #[.finished], {}, 439, os⟩, cT, ⟨70, 0, 71, 23⟩) := by kernel_rfl
noncomputable def tg_p35 (P : Params)  : BT := (.node (boot_o_0 P) (.node (boot_o_1 P) (.node (ob3_9 P) (.node (boot_o_7 P) (.node (ob15_0 P) (.node (fo (d31 P)) (.node (ob63_0 P) .nil .nil) (.node (ob95_0 P) .nil .nil)) (.node (ob47_0 P) (.node (ob79_0 P) .nil .nil) .nil)) (.node (ob23_0 P) (.node (ob39_0 P) (.node (ob71_0 P) .nil .nil) (.node (ob103_0 P) .nil .nil)) (.node (ob55_0 P) (.node (ob87_0 P) .nil .nil) .nil))) (.node (ob11_0 P) (.node (ob19_0 P) (.node (ob35_0 P) (.node (ob67_0 P) .nil .nil) (.node (ob99_0 P) .nil .nil)) (.node (ob51_0 P) (.node (ob83_0 P) .nil .nil) .nil)) (.node (fo (d27 P)) (.node (ob43_0 P) (.node (ob75_0 P) .nil .nil) (.node (ob107_0 P) .nil .nil)) (.node (ob59_0 P) (.node (ob91_0 P) .nil .nil) .nil)))) (.node (boot_o_5 P) (.node (boot_o_9 P) (.node (ob17_0 P) (.node (ob33_1 P) (.node (ob65_0 P) .nil .nil) (.node (ob97_0 P) .nil .nil)) (.node (ob49_0 P) (.node (ob81_0 P) .nil .nil) .nil)) (.node (ob25_0 P) (.node (fo (d41 P)) (.node (ob73_0 P) .nil .nil) (.node (ob105_0 P) .nil .nil)) (.node (ob57_0 P) (.node (ob89_0 P) .nil .nil) .nil))) (.node (ob13_0 P) (.node (ob21_0 P) (.node (fo (d37 P)) (.node (ob69_0 P) .nil .nil) (.node (ob101_0 P) .nil .nil)) (.node (ob53_0 P) (.node (ob85_0 P) .nil .nil) .nil)) (.node (ob29_0 P) (.node (fo (d45 P)) (.node (ob77_0 P) .nil .nil) (.node (ob109_0 P) .nil .nil)) (.node (ob61_0 P) (.node (ob93_0 P) .nil .nil) .nil))))) (.node (boot_o_2 P) (.node (boot_o_4 P) (.node (boot_o_8 P) (.node (ob16_0 P) (.node (fo (d32 P)) (.node (ob64_0 P) .nil .nil) (.node (ob96_0 P) .nil .nil)) (.node (ob48_0 P) (.node (ob80_0 P) .nil .nil) .nil)) (.node (ob24_0 P) (.node (ob40_0 P) (.node (ob72_0 P) .nil .nil) (.node (ob104_0 P) .nil .nil)) (.node (ob56_0 P) (.node (ob88_0 P) .nil .nil) .nil))) (.node (ob12_4 P) (.node (ob20_0 P) (.node (fo (d36 P)) (.node (ob68_0 P) .nil .nil) (.node (ob100_0 P) .nil .nil)) (.node (ob52_0 P) (.node (ob84_0 P) .nil .nil) .nil)) (.node (ob28_1 P) (.node (ob44_0 P) (.node (ob76_0 P) .nil .nil) (.node (ob108_0 P) .nil .nil)) (.node (ob60_0 P) (.node (ob92_0 P) .nil .nil) .nil)))) (.node (boot_o_6 P) (.node (boot_o_10 P) (.node (ob18_0 P) (.node (ob34_0 P) (.node (ob66_0 P) .nil .nil) (.node (ob98_0 P) .nil .nil)) (.node (ob50_0 P) (.node (ob82_0 P) .nil .nil) .nil)) (.node (ob26_0 P) (.node (ob42_1 P) (.node (ob74_0 P) .nil .nil) (.node (ob106_0 P) .nil .nil)) (.node (ob58_0 P) (.node (ob90_0 P) .nil .nil) .nil))) (.node (ob14_0 P) (.node (fo (d22 P 32)) (.node (ob38_2 P) (.node (ob70_0 P) .nil .nil) (.node (ob102_0 P) .nil .nil)) (.node (ob54_0 P) (.node (ob86_0 P) .nil .nil) .nil)) (.node (ob30_0 P) (.node (ob46_0 P) (.node (ob78_0 P) .nil .nil) .nil) (.node (ob62_0 P) (.node (ob94_0 P) .nil .nil) .nil))))))
theorem k_g17 (w : World) (os : OsState) : segRunT treeTable prg w 11 ANN 1 172 ⟨tg_p16 w.params, 110, {}, #[.finished], {}, 439, os⟩ (piecesOf [stAt 17, stAt 18, stAt 19, stAt 20, stAt 21, stAt 22, stAt 23, stAt 24, stAt 25, stAt 26, stAt 27, stAt 28, stAt 29, stAt 30, stAt 31, stAt 32, stAt 33, stAt 34, stAt 35] envT cT ⟨70, 0, 71, 23⟩ BT0) = some (.next, ⟨tg_p35 w.params, 110, {}, #[.finished], {}, 477, os⟩, cT, ⟨90, 0, 90, 7⟩) := by kernel_rfl
noncomputable def tg_p36 (P : Params)  : BT := (.node (boot_o_0 P) (.node (boot_o_1 P) (.node (ob3_10 P) (.node (boot_o_7 P) (.node (ob15_0 P) (.node (fo (d31 P)) (.node (ob63_0 P) (.node (ob127_0 P) .nil .nil) .nil) (.node (ob95_0 P) .nil .nil)) (.node (ob47_0 P) (.node (ob79_0 P) .nil .nil) (.node (ob111_0 P) .nil .nil))) (.node (ob23_0 P) (.node (ob39_0 P) (.node (ob71_0 P) (.node (ob135_0 P) .nil .nil) .nil) (.node (ob103_0 P) .nil .nil)) (.node (ob55_0 P) (.node (ob87_0 P) .nil .nil) (.node (ob119_0 P) .nil .nil)))) (.node (ob11_0 P) (.node (ob19_0 P) (.node (ob35_0 P) (.node (ob67_0 P) (.node (ob131_0 P) .nil .nil) .nil) (.node (ob99_0 P) .nil .nil)) (.node (ob51_0 P) (.node (ob83_0 P) .nil .nil) (.node (ob115_0 P) .nil .nil))) (.node (fo (d27 P)) (.node (ob43_0 P) (.node (ob75_0 P) (.node (ob139_0 P) .nil .nil) .nil) (.node (ob107_0 P) .nil .nil)) (.node (ob59_0 P) (.node (ob91_0 P) .nil .nil) (.node (ob123_0 P) .nil .nil))))) (.node (boot_o_5 P) (.node (boot_o_9 P) (.node (ob17_0 P) (.node (ob33_1 P) (.node (ob65_0 P) (.node (ob129_0 P) .nil .nil) .nil) (.node (ob97_0 P) .nil .nil)) (.node (ob49_0 P) (.node (ob81_0 P) .nil .nil) (.node (ob113_0 P) .nil .nil))) (.node (ob25_0 P) (.node (fo (d41 P)) (.node (ob73_0 P) (.node (ob137_0 P) .nil .nil) .nil) (.node (ob105_0 P) .nil .nil)) (.node (ob57_0 P) (.node (ob89_0 P) .nil .nil) (.node (ob121_0 P) .nil .nil)))) (.node (ob13_0 P) (.node (ob21_0 P) (.node (fo (d37 P)) (.node (ob69_0 P) (.node (ob133_0 P) .nil .nil) .nil) (.node (ob101_0 P) .nil .nil)) (.node (ob53_0 P) (.node (ob85_0 P) .nil .nil) (.node (ob117_0 P) .nil .nil))) (.node (ob29_0 P) (.node (fo (d45 P)) (.node (ob77_0 P) (.node (ob141_0 P) .nil .nil) .nil) (.node (ob109_0 P) .nil .nil)) (.node (ob61_0 P) (.node (ob93_0 P) .nil .nil) (.node (ob125_0 P) .nil .nil)))))) (.node (boot_o_2 P) (.node (boot_o_4 P) (.node (boot_o_8 P) (.node (ob16_0 P) (.node (fo (d32 P)) (.node (ob64_0 P) (.node (ob128_0 P) .nil .nil) .nil) (.node (ob96_0 P) .nil .nil)) (.node (ob48_0 P) (.node (ob80_0 P) .nil .nil) (.node (ob112_0 P) .nil .nil))) (.node (ob24_0 P) (.node (ob40_0 P) (.node (ob72_0 P) (.node (ob136_0 P) .nil .nil) .nil) (.node (ob104_0 P) .nil .nil)) (.node (ob56_0 P) (.node (ob88_0 P) .nil .nil) (.node (ob120_0 P) .nil .nil)))) (.node (ob12_4 P) (.node (ob20_0 P) (.node (fo (d36 P)) (.node (ob68_0 P) (.node (ob132_0 P) .nil .nil) .nil) (.node (ob100_0 P) .nil .nil)) (.node (ob52_0 P) (.node (ob84_0 P) .nil .nil) (.node (ob116_0 P) .nil .nil))) (.node (ob28_1 P) (.node (ob44_0 P) (.node (ob76_0 P) (.node (ob140_0 P) .nil .nil) .nil) (.node (ob108_0 P) .nil .nil)) (.node (ob60_0 P) (.node (ob92_0 P) .nil .nil) (.node (ob124_0 P) .nil .nil))))) (.node (boot_o_6 P) (.node (boot_o_10 P) (.node (ob18_0 P) (.node (ob34_0 P) (.node (ob66_0 P) (.node (ob130_0 P) .nil .nil) .nil) (.node (ob98_0 P) .nil .nil)) (.node (ob50_0 P) (.node (ob82_0 P) .nil .nil) (.node (ob114_0 P) .nil .nil))) (.node (ob26_0 P) (.node (ob42_1 P) (.node (ob74_0 P) (.node (ob138_0 P) .nil .nil) .nil) (.node (ob106_0 P) .nil .nil)) (.node (ob58_0 P) (.node (ob90_0 P) .nil .nil) (.node (ob122_0 P) .nil .nil)))) (.node (ob14_0 P) (.node (fo (d22 P 32)) (.node (ob38_2 P) (.node (ob70_0 P) (.node (ob134_0 P) .nil .nil) .nil) (.node (ob102_0 P) .nil .nil)) (.node (ob54_0 P) (.node (ob86_0 P) .nil .nil) (.node (ob118_0 P) .nil .nil))) (.node (ob30_0 P) (.node (ob46_0 P) (.node (ob78_0 P) (.node (ob142_0 P) .nil .nil) .nil) (.node (ob110_0 P) .nil .nil)) (.node (ob62_0 P) (.node (ob94_0 P) .nil .nil) (.node (ob126_0 P) .nil .nil)))))))
theorem k_g36 (w : World) (os : OsState) : segRunT treeTable prg w 11 ANN 1 162 ⟨tg_p35 w.params, 110, {}, #[.finished], {}, 477, os⟩ (piecesOf [stAt 36] envT cT ⟨90, 0, 90, 7⟩ BT0) = some (.next, ⟨tg_p36 w.params, 143, {}, #[.finished], {}, 503, os⟩, cT, ⟨91, 0, 91, 15⟩) := by kernel_rfl
noncomputable def tg_p41 (P : Params)  : BT := (.node (boot_o_0 P) (.node (boot_o_1 P) (.node (ob3_11 P) (.node (boot_o_7 P) (.node (ob15_0 P) (.node (fo (d31 P)) (.node (ob63_0 P) (.node (ob127_0 P) .nil .nil) .nil) (.node (ob95_0 P) (.node (ob159_0 P) .nil .nil) .nil)) (.node (ob47_0 P) (.node (ob79_0 P) (.node (ob143_0 P) .nil .nil) .nil) (.node (ob111_0 P) .nil .nil))) (.node (ob23_0 P) (.node (ob39_0 P) (.node (ob71_0 P) (.node (ob135_0 P) .nil .nil) .nil) (.node (ob103_0 P) (.node (ob167_0 P) .nil .nil) .nil)) (.node (ob55_0 P) (.node (ob87_0 P) (.node (ob151_0 P) .nil .nil) .nil) (.node (ob119_0 P) .nil .nil)))) (.node (ob11_0 P) (.node (ob19_0 P) (.node (ob35_0 P) (.node (ob67_0 P) (.node (ob131_0 P) .nil .nil) .nil) (.node (ob99_0 P) (.node (ob163_0 P) .nil .nil) .nil)) (.node (ob51_0 P) (.node (ob83_0 P) (.node (ob147_0 P) .nil .nil) .nil) (.node (ob115_0 P) .nil .nil))) (.node (fo (d27 P)) (.node (ob43_0 P) (.node (ob75_0 P) (.node (ob139_0 P) .nil .nil) .nil) (.node (ob107_0 P) .nil .nil)) (.node (ob59_0 P) (.node (ob91_0 P) (.node (ob155_0 P) .nil .nil) .nil) (.node (ob123_0 P) .nil .nil))))) (.node (boot_o_5 P) (.node (boot_o_9 P) (.node (ob17_0 P) (.node (ob33_1 P) (.node (ob65_0 P) (.node (ob129_0 P) .nil .nil) .nil) (.node (ob97_0 P) (.node (ob161_0 P) .nil .nil) .nil)) (.node (ob49_0 P) (.node (ob81_0 P) (.node (ob145_0 P) .nil .nil) .nil) (.node (ob113_0 P) .nil .nil))) (.node (ob25_0 P) (.node (fo (d41 P)) (.node (ob73_0 P) (.node (ob137_0 P) .nil .nil) .nil) (.node (ob105_0 P) .nil .nil)) (.node (ob57_0 P) (.node (ob89_0 P) (.node (ob153_0 P) .nil .nil) .nil) (.node (ob121_0 P) .nil .nil)))) (.node (ob13_0 P) (.node (ob21_0 P) (.node (fo (d37 P)) (.node (ob69_0 P) (.node (ob133_0 P) .nil .nil) .nil) (.node (ob101_0 P) (.node (ob165_0 P) .nil .nil) .nil)) (.node (ob53_0 P) (.node (ob85_0 P) (.node (ob149_0 P) .nil .nil) .nil) (.node (ob117_0 P) .nil .nil))) (.node (ob29_0 P) (.node (fo (d45 P)) (.node (ob77_0 P) (.node (ob141_0 P) .nil .nil) .nil) (.node (ob109_0 P) .nil .nil)) (.node (ob61_0 P) (.node (ob93_0 P) (.node (ob157_0 P) .nil .nil) .nil) (.node (ob125_0 P) .nil .nil)))))) (.node (boot_o_2 P) (.node (boot_o_4 P) (.node (boot_o_8 P) (.node (ob16_0 P) (.node (fo (d32 P)) (.node (ob64_0 P) (.node (ob128_0 P) .nil .nil) .nil) (.node (ob96_0 P) (.node (ob160_0 P) .nil .nil) .nil)) (.node (ob48_0 P) (.node (ob80_0 P) (.node (ob144_0 P) .nil .nil) .nil) (.node (ob112_0 P) .nil .nil))) (.node (ob24_0 P) (.node (ob40_0 P) (.node (ob72_0 P) (.node (ob136_0 P) .nil .nil) .nil) (.node (ob104_0 P) (.node (ob168_0 P) .nil .nil) .nil)) (.node (ob56_0 P) (.node (ob88_0 P) (.node (ob152_0 P) .nil .nil) .nil) (.node (ob120_0 P) .nil .nil)))) (.node (ob12_5 P) (.node (ob20_0 P) (.node (fo (d36 P)) (.node (ob68_0 P) (.node (ob132_0 P) .nil .nil) .nil) (.node (ob100_0 P) (.node (ob164_0 P) .nil .nil) .nil)) (.node (ob52_0 P) (.node (ob84_0 P) (.node (ob148_0 P) .nil .nil) .nil) (.node (ob116_0 P) .nil .nil))) (.node (ob28_1 P) (.node (ob44_0 P) (.node (ob76_0 P) (.node (ob140_0 P) .nil .nil) .nil) (.node (ob108_0 P) .nil .nil)) (.node (ob60_0 P) (.node (ob92_0 P) (.node (ob156_0 P) .nil .nil) .nil) (.node (ob124_0 P) .nil .nil))))) (.node (boot_o_6 P) (.node (boot_o_10 P) (.node (ob18_0 P) (.node (ob34_0 P) (.node (ob66_0 P) (.node (ob130_0 P) .nil .nil) .nil) (.node (ob98_0 P) (.node (ob162_0 P) .nil .nil) .nil)) (.node (ob50_0 P) (.node (ob82_0 P) (.node (ob146_0 P) .nil .nil) .nil) (.node (ob114_0 P) .nil .nil))) (.node (ob26_0 P) (.node (ob42_1 P) (.node (ob74_0 P) (.node (ob138_0 P) .nil .nil) .nil) (.node (ob106_0 P) .nil .nil)) (.node (ob58_0 P) (.node (ob90_0 P) (.node (ob154_0 P) .nil .nil) .nil) (.node (ob122_0 P) .nil .nil)))) (.node (ob14_0 P) (.node (fo (d22 P 32)) (.node (ob38_2 P) (.node (ob70_0 P) (.node (ob134_0 P) .nil .nil) .nil) (.node (ob102_0 P) (.node (ob166_0 P) .nil .nil) .nil)) (.node (ob54_0 P) (.node (ob86_0 P) (.node (ob150_0 P) .nil .nil) .nil) (.node (ob118_0 P) .nil .nil))) (.node (ob30_0 P) (.node (ob46_0 P) (.node (ob78_0 P) (.node (ob142_0 P) .nil .nil) .nil) (.node (ob110_0 P) .nil .nil)) (.node (ob62_0 P) (.node (ob94_0 P) (.node (ob158_0 P) .nil .nil) .nil) (.node (ob126_0 P) .nil .nil)))))))
theorem k_g37 (w : World) (os : OsState) : segRunT treeTable prg w 11 ANN 1 137 ⟨tg_p36 w.params, 143, {}, #[.finished], {}, 503, os⟩ (piecesOf [stAt 37, stAt 38, stAt 39, stAt 40, stAt 41] envT cT ⟨91, 0, 91, 15⟩ BT0) = some (.next, ⟨tg_p41 w.params, 169, {}, #[.finished], {}, 546, os⟩, cT, ⟨127, 0, 140, 24⟩) := by kernel_rfl
noncomputable def tg_p46 (P : Params)  : BT := (.node (boot_o_0 P) (.node (boot_o_1 P) (.node (ob3_12 P) (.node (boot_o_7 P) (.node (ob15_0 P) (.node (fo (d31 P)) (.node (ob63_0 P) (.node (ob127_0 P) .nil .nil) (.node (ob191_0 P) .nil .nil)) (.node (ob95_0 P) (.node (ob159_0 P) .nil .nil) .nil)) (.node (ob47_0 P) (.node (ob79_0 P) (.node (ob143_0 P) .nil .nil) .nil) (.node (ob111_0 P) (.node (ob175_0 P) .nil .nil) .nil))) (.node (ob23_0 P) (.node (ob39_0 P) (.node (ob71_0 P) (.node (ob135_0 P) .nil .nil) .nil) (.node (ob103_0 P) (.node (ob167_0 P) .nil .nil) .nil)) (.node (ob55_0 P) (.node (ob87_0 P) (.node (ob151_0 P) .nil .nil) .nil) (.node (ob119_0 P) (.node (ob183_0 P) .nil .nil) .nil)))) (.node (ob11_0 P) (.node (ob19_0 P) (.node (ob35_0 P) (.node (ob67_0 P) (.node (ob131_0 P) .nil .nil) (.node (ob195_0 P) .nil .nil)) (.node (ob99_0 P) (.node (ob163_0 P) .nil .nil) .nil)) (.node (ob51_0 P) (.node (ob83_0 P) (.node (ob147_0 P) .nil .nil) .nil) (.node (ob115_0 P) (.node (ob179_0 P) .nil .nil) .nil))) (.node (fo (d27 P)) (.node (ob43_0 P) (.node (ob75_0 P) (.node (ob139_0 P) .nil .nil) .nil) (.node (ob107_0 P) (.node (ob171_0 P) .nil .nil) .nil)) (.node (ob59_0 P) (.node (ob91_0 P) (.node (ob155_0 P) .nil .nil) .nil) (.node (ob123_0 P) (.node (ob187_0 P) .nil .nil) .nil))))) (.node (boot_o_5 P) (.node (boot_o_9 P) (.node (ob17_0 P) (.node (ob33_1 P) (.node (ob65_0 P) (.node (ob129_0 P) .nil .nil) (.node (ob193_0 P) .nil .nil)) (.node (ob97_0 P) (.node (ob161_0 P) .nil .nil) .nil)) (.node (ob49_0 P) (.node (ob81_0 P) (.node (ob145_0 P) .nil .nil) .nil) (.node (ob113_0 P) (.node (ob177_0 P) .nil .nil) .nil))) (.node (ob25_0 P) (.node (fo (d41 P)) (.node (ob73_0 P) (.node (ob137_0 P) .nil .nil) .nil) (.node (ob105_0 P) (.node (ob169_0 P) .nil .nil) .nil)) (.node (ob57_0 P) (.node (ob89_0 P) (.node (ob153_0 P) .nil .nil) .nil) (.node (ob121_0 P) (.node (ob185_0 P) .nil .nil) .nil)))) (.node (ob13_0 P) (.node (ob21_0 P) (.node (fo (d37 P)) (.node (ob69_0 P) (.node (ob133_0 P) .nil .nil) (.node (ob197_0 P) .nil .nil)) (.node (ob101_0 P) (.node (ob165_0 P) .nil .nil) .nil)) (.node (ob53_0 P) (.node (ob85_0 P) (.node (ob149_0 P) .nil .nil) .nil) (.node (ob117_0 P) (.node (ob181_0 P) .nil .nil) .nil))) (.node (ob29_0 P) (.node (fo (d45 P)) (.node (ob77_0 P) (.node (ob141_0 P) .nil .nil) .nil) (.node (ob109_0 P) (.node (ob173_0 P) .nil .nil) .nil)) (.node (ob61_0 P) (.node (ob93_0 P) (.node (ob157_0 P) .nil .nil) .nil) (.node (ob125_0 P) (.node (ob189_0 P) .nil .nil) .nil)))))) (.node (boot_o_2 P) (.node (boot_o_4 P) (.node (boot_o_8 P) (.node (ob16_0 P) (.node (fo (d32 P)) (.node (ob64_0 P) (.node (ob128_0 P) .nil .nil) (.node (ob192_0 P) .nil .nil)) (.node (ob96_0 P) (.node (ob160_0 P) .nil .nil) .nil)) (.node (ob48_0 P) (.node (ob80_0 P) (.node (ob144_0 P) .nil .nil) .nil) (.node (ob112_0 P) (.node (ob176_0 P) .nil .nil) .nil))) (.node (ob24_0 P) (.node (ob40_0 P) (.node (ob72_0 P) (.node (ob136_0 P) .nil .nil) .nil) (.node (ob104_0 P) (.node (ob168_0 P) .nil .nil) .nil)) (.node (ob56_0 P) (.node (ob88_0 P) (.node (ob152_0 P) .nil .nil) .nil) (.node (ob120_0 P) (.node (ob184_0 P) .nil .nil) .nil)))) (.node (ob12_6 P) (.node (ob20_0 P) (.node (fo (d36 P)) (.node (ob68_0 P) (.node (ob132_0 P) .nil .nil) (.node (ob196_0 P) .nil .nil)) (.node (ob100_0 P) (.node (ob164_0 P) .nil .nil) .nil)) (.node (ob52_0 P) (.node (ob84_0 P) (.node (ob148_0 P) .nil .nil) .nil) (.node (ob116_0 P) (.node (ob180_0 P) .nil .nil) .nil))) (.node (ob28_1 P) (.node (ob44_0 P) (.node (ob76_0 P) (.node (ob140_0 P) .nil .nil) .nil) (.node (ob108_0 P) (.node (ob172_0 P) .nil .nil) .nil)) (.node (ob60_0 P) (.node (ob92_0 P) (.node (ob156_0 P) .nil .nil) .nil) (.node (ob124_0 P) (.node (ob188_0 P) .nil .nil) .nil))))) (.node (boot_o_6 P) (.node (boot_o_10 P) (.node (ob18_0 P) (.node (ob34_0 P) (.node (ob66_0 P) (.node (ob130_0 P) .nil .nil) (.node (ob194_0 P) .nil .nil)) (.node (ob98_0 P) (.node (ob162_0 P) .nil .nil) .nil)) (.node (ob50_0 P) (.node (ob82_0 P) (.node (ob146_0 P) .nil .nil) .nil) (.node (ob114_0 P) (.node (ob178_0 P) .nil .nil) .nil))) (.node (ob26_0 P) (.node (ob42_1 P) (.node (ob74_0 P) (.node (ob138_0 P) .nil .nil) .nil) (.node (ob106_0 P) (.node (ob170_0 P) .nil .nil) .nil)) (.node (ob58_0 P) (.node (ob90_0 P) (.node (ob154_0 P) .nil .nil) .nil) (.node (ob122_0 P) (.node (ob186_0 P) .nil .nil) .nil)))) (.node (ob14_0 P) (.node (fo (d22 P 32)) (.node (ob38_2 P) (.node (ob70_0 P) (.node (ob134_0 P) .nil .nil) .nil) (.node (ob102_0 P) (.node (ob166_0 P) .nil .nil) .nil)) (.node (ob54_0 P) (.node (ob86_0 P) (.node (ob150_0 P) .nil .nil) .nil) (.node (ob118_0 P) (.node (ob182_0 P) .nil .nil) .nil))) (.node (ob30_0 P) (.node (ob46_0 P) (.node (ob78_0 P) (.node (ob142_0 P) .nil .nil) .nil) (.node (ob110_0 P) (.node (ob174_0 P) .nil .nil) .nil)) (.node (ob62_0 P) (.node (ob94_0 P) (.node (ob158_0 P) .nil .nil) .nil) (.node (ob126_0 P) (.node (ob190_0 P) .nil .nil) .nil)))))))
theorem k_g42 (w : World) (os : OsState) : segRunT treeTable prg w 11 ANN 1 139 ⟨tg_p41 w.params, 169, {}, #[.finished], {}, 546, os⟩ (piecesOf [stAt 42, stAt 43, stAt 44, stAt 45, stAt 46] envT cT ⟨127, 0, 140, 24⟩ BT0) = some (.next, ⟨tg_p46 w.params, 198, {}, #[.finished], {}, 580, os⟩, cT, ⟨188, 0, 197, 26⟩) := by kernel_rfl
noncomputable def tg_p49 (P : Params)  : BT := (.node (boot_o_0 P) (.node (boot_o_1 P) (.node (ob3_13 P) (.node (boot_o_7 P) (.node (ob15_0 P) (.node (fo (d31 P)) (.node (ob63_0 P) (.node (ob127_0 P) .nil .nil) (.node (ob191_0 P) .nil .nil)) (.node (ob95_0 P) (.node (ob159_0 P) .nil .nil) .nil)) (.node (ob47_0 P) (.node (ob79_0 P) (.node (ob143_0 P) .nil .nil) (.node (ob207_0 P) .nil .nil)) (.node (ob111_0 P) (.node (ob175_0 P) .nil .nil) .nil))) (.node (ob23_0 P) (.node (ob39_0 P) (.node (ob71_0 P) (.node (ob135_0 P) .nil .nil) (.node (ob199_0 P) .nil .nil)) (.node (ob103_0 P) (.node (ob167_0 P) .nil .nil) .nil)) (.node (ob55_0 P) (.node (ob87_0 P) (.node (ob151_0 P) .nil .nil) (.node (ob215_0 P) .nil .nil)) (.node (ob119_0 P) (.node (ob183_0 P) .nil .nil) .nil)))) (.node (ob11_0 P) (.node (ob19_0 P) (.node (ob35_0 P) (.node (ob67_0 P) (.node (ob131_0 P) .nil .nil) (.node (ob195_0 P) .nil .nil)) (.node (ob99_0 P) (.node (ob163_0 P) .nil .nil) .nil)) (.node (ob51_0 P) (.node (ob83_0 P) (.node (ob147_0 P) .nil .nil) (.node (ob211_0 P) .nil .nil)) (.node (ob115_0 P) (.node (ob179_0 P) .nil .nil) .nil))) (.node (fo (d27 P)) (.node (ob43_0 P) (.node (ob75_0 P) (.node (ob139_0 P) .nil .nil) (.node (ob203_0 P) .nil .nil)) (.node (ob107_0 P) (.node (ob171_0 P) .nil .nil) .nil)) (.node (ob59_0 P) (.node (ob91_0 P) (.node (ob155_0 P) .nil .nil) .nil) (.node (ob123_0 P) (.node (ob187_0 P) .nil .nil) .nil))))) (.node (boot_o_5 P) (.node (boot_o_9 P) (.node (ob17_0 P) (.node (ob33_1 P) (.node (ob65_0 P) (.node (ob129_0 P) .nil .nil) (.node (ob193_0 P) .nil .nil)) (.node (ob97_0 P) (.node (ob161_0 P) .nil .nil) .nil)) (.node (ob49_0 P) (.node (ob81_0 P) (.node (ob145_0 P) .nil .nil) (.node (ob209_0 P) .nil .nil)) (.node (ob113_0 P) (.node (ob177_0 P) .nil .nil) .nil))) (.node (ob25_0 P) (.node (fo (d41 P)) (.node (ob73_0 P) (.node (ob137_0 P) .nil .nil) (.node (ob201_0 P) .nil .nil)) (.node (ob105_0 P) (.node (ob169_0 P) .nil .nil) .nil)) (.node (ob57_0 P) (.node (ob89_0 P) (.node (ob153_0 P) .nil .nil) .nil) (.node (ob121_0 P) (.node (ob185_0 P) .nil .nil) .nil)))) (.node (ob13_0 P) (.node (ob21_0 P) (.node (fo (d37 P)) (.node (ob69_0 P) (.node (ob133_0 P) .nil .nil) (.node (ob197_0 P) .nil .nil)) (.node (ob101_0 P) (.node (ob165_0 P) .nil .nil) .nil)) (.node (ob53_0 P) (.node (ob85_0 P) (.node (ob149_0 P) .nil .nil) (.node (ob213_0 P) .nil .nil)) (.node (ob117_0 P) (.node (ob181_0 P) .nil .nil) .nil))) (.node (ob29_0 P) (.node (fo (d45 P)) (.node (ob77_0 P) (.node (ob141_0 P) .nil .nil) (.node (ob205_0 P) .nil .nil)) (.node (ob109_0 P) (.node (ob173_0 P) .nil .nil) .nil)) (.node (ob61_0 P) (.node (ob93_0 P) (.node (ob157_0 P) .nil .nil) .nil) (.node (ob125_0 P) (.node (ob189_0 P) .nil .nil) .nil)))))) (.node (boot_o_2 P) (.node (boot_o_4 P) (.node (boot_o_8 P) (.node (ob16_0 P) (.node (fo (d32 P)) (.node (ob64_0 P) (.node (ob128_0 P) .nil .nil) (.node (ob192_0 P) .nil .nil)) (.node (ob96_0 P) (.node (ob160_0 P) .nil .nil) .nil)) (.node (ob48_0 P) (.node (ob80_0 P) (.node (ob144_0 P) .nil .nil) (.node (ob208_0 P) .nil .nil)) (.node (ob112_0 P) (.node (ob176_0 P) .nil .nil) .nil))) (.node (ob24_0 P) (.node (ob40_0 P) (.node (ob72_0 P) (.node (ob136_0 P) .nil .nil) (.node (ob200_0 P) .nil .nil)) (.node (ob104_0 P) (.node (ob168_0 P) .nil .nil) .nil)) (.node (ob56_0 P) (.node (ob88_0 P) (.node (ob152_0 P) .nil .nil) (.node (ob216_0 P) .nil .nil)) (.node (ob120_0 P) (.node (ob184_0 P) .nil .nil) .nil)))) (.node (ob12_7 P) (.node (ob20_0 P) (.node (fo (d36 P)) (.node (ob68_0 P) (.node (ob132_0 P) .nil .nil) (.node (ob196_0 P) .nil .nil)) (.node (ob100_0 P) (.node (ob164_0 P) .nil .nil) .nil)) (.node (ob52_0 P) (.node (ob84_0 P) (.node (ob148_0 P) .nil .nil) (.node (ob212_0 P) .nil .nil)) (.node (ob116_0 P) (.node (ob180_0 P) .nil .nil) .nil))) (.node (ob28_1 P) (.node (ob44_0 P) (.node (ob76_0 P) (.node (ob140_0 P) .nil .nil) (.node (ob204_0 P) .nil .nil)) (.node (ob108_0 P) (.node (ob172_0 P) .nil .nil) .nil)) (.node (ob60_0 P) (.node (ob92_0 P) (.node (ob156_0 P) .nil .nil) .nil) (.node (ob124_0 P) (.node (ob188_0 P) .nil .nil) .nil))))) (.node (boot_o_6 P) (.node (boot_o_10 P) (.node (ob18_0 P) (.node (ob34_0 P) (.node (ob66_0 P) (.node (ob130_0 P) .nil .nil) (.node (ob194_0 P) .nil .nil)) (.node (ob98_0 P) (.node (ob162_0 P) .nil .nil) .nil)) (.node (ob50_0 P) (.node (ob82_0 P) (.node (ob146_0 P) .nil .nil) (.node (ob210_0 P) .nil .nil)) (.node (ob114_0 P) (.node (ob178_0 P) .nil .nil) .nil))) (.node (ob26_0 P) (.node (ob42_1 P) (.node (ob74_0 P) (.node (ob138_0 P) .nil .nil) (.node (ob202_0 P) .nil .nil)) (.node (ob106_0 P) (.node (ob170_0 P) .nil .nil) .nil)) (.node (ob58_0 P) (.node (ob90_0 P) (.node (ob154_0 P) .nil .nil) .nil) (.node (ob122_0 P) (.node (ob186_0 P) .nil .nil) .nil)))) (.node (ob14_0 P) (.node (fo (d22 P 32)) (.node (ob38_2 P) (.node (ob70_0 P) (.node (ob134_0 P) .nil .nil) (.node (ob198_0 P) .nil .nil)) (.node (ob102_0 P) (.node (ob166_0 P) .nil .nil) .nil)) (.node (ob54_0 P) (.node (ob86_0 P) (.node (ob150_0 P) .nil .nil) (.node (ob214_0 P) .nil .nil)) (.node (ob118_0 P) (.node (ob182_0 P) .nil .nil) .nil))) (.node (ob30_0 P) (.node (ob46_0 P) (.node (ob78_0 P) (.node (ob142_0 P) .nil .nil) (.node (ob206_0 P) .nil .nil)) (.node (ob110_0 P) (.node (ob174_0 P) .nil .nil) .nil)) (.node (ob62_0 P) (.node (ob94_0 P) (.node (ob158_0 P) .nil .nil) .nil) (.node (ob126_0 P) (.node (ob190_0 P) .nil .nil) .nil)))))))
theorem k_g47 (w : World) (os : OsState) : segRunT treeTable prg w 11 ANN 1 92 ⟨tg_p46 w.params, 198, {}, #[.finished], {}, 580, os⟩ (piecesOf [stAt 47, stAt 48, stAt 49] envT cT ⟨188, 0, 197, 26⟩ BT0) = some (.next, ⟨tg_p49 w.params, 217, {}, #[.finished], {}, 607, os⟩, cT, ⟨218, 0, 227, 85⟩) := by kernel_rfl
noncomputable def hpFin (P : Params) : Heap := ⟨#[(boot_o_0 P), (boot_o_1 P), (boot_o_2 P), (ob3_13 P), (boot_o_4 P), (boot_o_5 P), (boot_o_6 P), (boot_o_7 P), (boot_o_8 P), (boot_o_9 P), (boot_o_10 P), (ob11_0 P), (ob12_7 P), (ob13_0 P), (ob14_0 P), (ob15_0 P), (ob16_0 P), (ob17_0 P), (ob18_0 P), (ob19_0 P), (ob20_0 P), (ob21_0 P), (fo (d22 P 32)), (ob23_0 P), (ob24_0 P), (ob25_0 P), (ob26_0 P), (fo (d27 P)), (ob28_1 P), (ob29_0 P), (ob30_0 P), (fo (d31 P)), (fo (d32 P)), (ob33_1 P), (ob34_0 P), (ob35_0 P), (fo (d36 P)), (fo (d37 P)), (ob38_2 P), (ob39_0 P), (ob40_0 P), (fo (d41 P)), (ob42_1 P), (ob43_0 P), (ob44_0 P), (fo (d45 P)), (ob46_0 P), (ob47_0 P), (ob48_0 P), (ob49_0 P), (ob50_0 P), (ob51_0 P), (ob52_0 P), (ob53_0 P), (ob54_0 P), (ob55_0 P), (ob56_0 P), (ob57_0 P), (ob58_0 P), (ob59_0 P), (ob60_0 P), (ob61_0 P), (ob62_0 P), (ob63_0 P), (ob64_0 P), (ob65_0 P), (ob66_0 P), (ob67_0 P), (ob68_0 P), (ob69_0 P), (ob70_0 P), (ob71_0 P), (ob72_0 P), (ob73_0 P), (ob74_0 P), (ob75_0 P), (ob76_0 P), (ob77_0 P), (ob78_0 P), (ob79_0 P), (ob80_0 P), (ob81_0 P), (ob82_0 P), (ob83_0 P), (ob84_0 P), (ob85_0 P), (ob86_0 P), (ob87_0 P), (ob88_0 P), (ob89_0 P), (ob90_0 P), (ob91_0 P), (ob92_0 P), (ob93_0 P), (ob94_0 P), (ob95_0 P), (ob96_0 P), (ob97_0 P), (ob98_0 P), (ob99_0 P), (ob100_0 P), (ob101_0 P), (ob102_0 P), (ob103_0 P), (ob104_0 P), (ob105_0 P), (ob106_0 P), (ob107_0 P), (ob108_0 P), (ob109_0 P), (ob110_0 P), (ob111_0 P), (ob112_0 P), (ob113_0 P), (ob114_0 P), (ob115_0 P), (ob116_0 P), (ob117_0 P), (ob118_0 P), (ob119_0 P), (ob120_0 P), (ob121_0 P), (ob122_0 P), (ob123_0 P), (ob124_0 P), (ob125_0 P), (ob126_0 P), (ob127_0 P), (ob128_0 P), (ob129_0 P), (ob130_0 P), (ob131_0 P), (ob132_0 P), (ob133_0 P), (ob134_0 P), (ob135_0 P), (ob136_0 P), (ob137_0 P), (ob138_0 P), (ob139_0 P), (ob140_0 P), (ob141_0 P), (ob142_0 P), (ob143_0 P), (ob144_0 P), (ob145_0 P), (ob146_0 P), (ob147_0 P), (ob148_0 P), (ob149_0 P), (ob150_0 P), (ob151_0 P), (ob152_0 P), (ob153_0 P), (ob154_0 P), (ob155_0 P), (ob156_0 P), (ob157_0 P), (ob158_0 P), (ob159_0 P), (ob160_0 P), (ob161_0 P), (ob162_0 P), (ob163_0 P), (ob164_0 P), (ob165_0 P), (ob166_0 P), (ob167_0 P), (ob168_0 P), (ob169_0 P), (ob170_0 P), (ob171_0 P), (ob172_0 P), (ob173_0 P), (ob174_0 P), (ob175_0 P), (ob176_0 P), (ob177_0 P), (ob178_0 P), (ob179_0 P), (ob180_0 P), (ob181_0 P), (ob182_0 P), (ob183_0 P), (ob184_0 P), (ob185_0 P), (ob186_0 P), (ob187_0 P), (ob188_0 P), (ob189_0 P), (ob190_0 P), (ob191_0 P), (ob192_0 P), (ob193_0 P), (ob194_0 P), (ob195_0 P), (ob196_0 P), (ob197_0 P), (ob198_0 P), (ob199_0 P), (ob200_0 P), (ob201_0 P), (ob202_0 P), (ob203_0 P), (ob204_0 P), (ob205_0 P), (ob206_0 P), (ob207_0 P), (ob208_0 P), (ob209_0 P), (ob210_0 P), (ob211_0 P), (ob212_0 P), (ob213_0 P), (ob214_0 P), (ob215_0 P), (ob216_0 P)], {}⟩
theorem k_fin (w : World) (os : OsState) : topRun treeTable prg w 11 ANN 2 (SharedT.abs ⟨tg_p49 w.params, 217, {}, #[.finished], {}, 607, os⟩) ⟨doneF .next, cT, ⟨218, 0, 227, 85⟩, BT0⟩ = some ⟨hpFin w.params, #[.finished], {}, 607, os⟩ := by kernel_rfl
end
end Mine
end
section
open PySem PySem.W PyProof.Rows PySem.Calls
set_option maxRecDepth 100000
namespace Mine
noncomputable section
section
variable {w : World}
theorem wrap_self {α : Type} (m : Sem α) : m.wrap .pure .raise id id = m := by
  induction m <;> simp only [Sem.wrap, id, *]
theorem den_or (l r : Addr) : denote treeTable (.builtin "frozenset.__or__" ⟨[.ref l, .ref r], []⟩) = Builtin.«frozenset.__or__» ⟨[.ref l, .ref r], []⟩ := by kernel_rfl
theorem den_sub (l r : Addr) : denote treeTable (.builtin "frozenset.__sub__" ⟨[.ref l, .ref r], []⟩) = Builtin.«frozenset.__sub__» ⟨[.ref l, .ref r], []⟩ := by kernel_rfl
theorem abs_push {T : BT} {n : Nat} {life : Life} {gens : Array GenState} {dr : Drawn} {toks : Nat} {os : OsState} {o : Obj} {T' : BT} (h : T.ins n o = T') (hi : ((T.ins n o).get n).isSome = true) :
    ({ (SharedT.abs ⟨T, n, life, gens, dr, toks, os⟩) with heap := (SharedT.abs ⟨T, n, life, gens, dr, toks, os⟩).heap.push o } : Shared) = SharedT.abs ⟨T', n + 1, life, gens, dr, toks, os⟩ := by
  subst h
  show Shared.mk ((absHeap T n life).push o) gens dr toks os = Shared.mk (absHeap (T.ins n o) (n + 1) life) gens dr toks os
  rw [absHeap_ins hi]
theorem fs_of {x : SV} {d : Data} (h : d = .set x.es x.ep x.t) : fs x = fo d := by rw [h]; rfl
theorem reach_or {T T' : BT} {n : Nat} {life : Life} {gens : Array GenState} {dr : Drawn} {toks : Nat} {os : OsState} {l r : Addr} {x y : SV} {big : Bool} {z : Str} {k : Tok} {h : Int} {d : Data} {cc : Code} {p : Pos} {f g : Frame} {st : List Frame}
    (hl : l < n) (hr : r < n) (hn : Nat.ble 11 n = true) (hne : (l == r) = false) (gl : T.get l = some (fs x)) (gr : T.get r = some (fs y)) (hc : Copies big x.es x.t) (ye : y.es = #[(h, .str z k)]) (yf : y.t.fits 1 = true) (hj : FJoins big w.params x.es x.t z)
    (hd : addData h (.str z k) (copyD big w.params x.es x.t) = d) (hT : T.ins n (fo d) = T') (hi : (T'.get n).isSome = true) :
    Reach w 60 (SharedT.abs ⟨T, n, life, gens, dr, toks, os⟩) ⟨denote treeTable (.builtin "frozenset.__or__" ⟨[.ref l, .ref r], []⟩), cc, p, f :: g :: st⟩ (SharedT.abs ⟨T', n + 1, life, gens, dr, toks, os⟩) ⟨.pure (.done (.ret (.ref n))), cc, p, f :: g :: st⟩ := by
  have hsz : (SharedT.abs ⟨T, n, life, gens, dr, toks, os⟩).heap.objs.size = n := absHeap_size T n life
  have ol : (SharedT.abs ⟨T, n, life, gens, dr, toks, os⟩).heap.get? l = some (fo (.set x.es x.ep x.t)) := abs_fo hl gl (fun z => nomatch z)
  have or_ : (SharedT.abs ⟨T, n, life, gens, dr, toks, os⟩).heap.get? r = some (fo (.set #[(h, .str z k)] y.ep y.t)) := by rw [← ye]; exact abs_fo hr gr (fun z => nomatch z)
  have R := runs_or (w := w) (by rw [hsz]; exact hn) hne ol hc or_ yf hj Sem.pure .raise id id cc p f g st
  rw [wrap_self, hsz, hd] at R
  rw [abs_push hT (by rw [hT]; exact hi)] at R
  rw [den_or]
  exact R
theorem reach_sub {T T' : BT} {n : Nat} {life : Life} {gens : Array GenState} {dr : Drawn} {toks : Nat} {os : OsState} {l r : Addr} {x y : SV} {z : Str} {k k' : Tok} {h hh : Int} {i : Nat} {d : Data} {cc : Code} {p : Pos} {f g : Frame} {st : List Frame}
    (hl : l < n) (hr : r < n) (hn : Nat.ble 11 n = true) (hne : (l == r) = false) (gl : T.get l = some (fs x)) (gr : T.get r = some (fs y)) (hc : Copies true x.es x.t) (ye : y.es = #[(h, .str z k)]) (yf : y.t.fits 1 = true) (hj : Leaves w.params x.es x.t z k' i hh)
    (heq : ∀ s, Runs w 4 (eqBool (.str z k') (.str z k)) s true s) (hd : dropData i (copyD true w.params x.es x.t) = d) (hT : T.ins n (fo d) = T') (hi : (T'.get n).isSome = true) :
    Reach w 80 (SharedT.abs ⟨T, n, life, gens, dr, toks, os⟩) ⟨denote treeTable (.builtin "frozenset.__sub__" ⟨[.ref l, .ref r], []⟩), cc, p, f :: g :: st⟩ (SharedT.abs ⟨T', n + 1, life, gens, dr, toks, os⟩) ⟨.pure (.done (.ret (.ref n))), cc, p, f :: g :: st⟩ := by
  have hsz : (SharedT.abs ⟨T, n, life, gens, dr, toks, os⟩).heap.objs.size = n := absHeap_size T n life
  have ol : (SharedT.abs ⟨T, n, life, gens, dr, toks, os⟩).heap.get? l = some (fo (.set x.es x.ep x.t)) := abs_fo hl gl (fun z => nomatch z)
  have or_ : (SharedT.abs ⟨T, n, life, gens, dr, toks, os⟩).heap.get? r = some (fo (.set #[(h, .str z k)] y.ep y.t)) := by rw [← ye]; exact abs_fo hr gr (fun z => nomatch z)
  have R := runs_sub (w := w) (by rw [hsz]; exact hn) hne ol hc or_ yf hj heq Sem.pure .raise id id cc p f g st
  rw [wrap_self, hsz, hd] at R
  rw [abs_push hT (by rw [hT]; exact hi)] at R
  rw [den_sub]
  exact R

/-- a set that is known by its list -/
theorem SD.sv {L : List (Int × Value)} {d : Data} (k : SD L d) : ∃ x : SV, d = .set x.es x.ep x.t ∧ TI L.length x.t x.es ∧ x.es.toList.Perm L := let ⟨es, ep, t, a, b, c⟩ := k; ⟨⟨es, ep, t⟩, a, b, c⟩
theorem one_of {x : SV} {e : Int × Value} (h : x.es.toList.Perm [e]) : x.es = #[e] := by
  have := List.perm_singleton.mp h
  cases hx : x.es; rw [hx] at this; simp at this; rw [this]
theorem copies_of {L : List (Int × Value)} {x : SV} {big : Bool} (k : TI L.length x.t x.es) (hL : if big then L.length = 32 ∨ L.length = 33 else L.length = 2) : Copies big x.es x.t := by
  have h40 : L.length < 40 := by cases big <;> simp at hL <;> omega
  refine ⟨k.fits h40, ?_, k.dum, by rw [k.size]; exact hL⟩
  rw [k.mask]
  cases big
  · simp at hL; rw [hL]; rfl
  · simp at hL; rcases hL with e | e <;> rw [e] <;> rfl
theorem joins_of {L : List (Int × Value)} {x : SV} {big : Bool} {P : Params} {c : Nat} (k : TI L.length x.t x.es) (kp : x.es.toList.Perm L) (hL : if big then L.length = 32 else L.length = 2) (ht : Takes L c) : FJoins big P x.es x.t ⟨#[c]⟩ := by
  have h40 : L.length < 40 := by cases big <;> simp at hL <;> omega
  have km : x.t.mask = if big then 127 else 7 := by
    rw [k.mask]; cases big
    · simp at hL; rw [hL]; rfl
    · simp at hL; rw [hL]; rfl
  refine ⟨?_, ?_, fun t' => ?_, fun e he => ht e (kp.mem_iff.mp he), by rw [k.size]; omega⟩
  · exact k.fits h40
  · unfold SetTable.roomFor
    rw [if_neg]
    show ¬ (x.t.place.size + x.t.dummies.size + 1) * 5 ≥ x.t.mask * 3
    rw [k.place, k.dum, km]
    cases big
    · have e : L.length = 2 := by simpa using hL
      rw [e]; decide
    · have e : L.length = 32 := by simpa using hL
      rw [e]; decide
  · unfold SetTable.road
    rw [if_pos]
    show (x.t.place.size + x.t.dummies.size != 0) = true
    rw [k.place, k.dum]
    cases big
    · have e : L.length = 2 := by simpa using hL
      rw [e]; rfl
    · have e : L.length = 32 := by simpa using hL
      rw [e]; rfl
end
end
end Mine
end
section
open PySem PySem.W PyProof.Rows PySem.Calls
set_option maxRecDepth 100000
namespace Mine
noncomputable section
theorem erase_size {α : Type} {xs : Array α} {i : Nat} (h : i < xs.size) : (SetTable.eraseAt xs i).size = xs.size - 1 := by
  unfold SetTable.eraseAt
  rw [Array.size_append, Array.size_extract, Array.size_extract]
  omega
theorem erase_list {α : Type} {xs : Array α} {i : Nat} : (SetTable.eraseAt xs i).toList = xs.toList.take i ++ xs.toList.drop (i + 1) := by
  unfold SetTable.eraseAt
  simp
  exact List.take_of_length_le (by simp)
/-- where the one that goes lies -/
theorem find_z {L : List (Int × Value)} {es : Array (Int × Value)} {z : Str} {hh : Int} {k' : Tok} (kp : es.toList.Perm L) (hm : (hh, Value.str z k') ∈ L) (hu : ∀ e ∈ L, e.2.isStr z = true → e = (hh, .str z k')) :
    ∃ i, es.findIdx? (·.2.isStr z) = some i ∧ i < es.size ∧ es[i]? = some (hh, .str z k') ∧ ∀ j, es[j]? = some (hh, .str z k') → i ≤ j := by
  have hz : (Value.str z k').isStr z = true := by show (z == z) = true; exact BEq.rfl
  cases hq : es.findIdx? (·.2.isStr z) with
  | none =>
    rw [Array.findIdx?_eq_none_iff] at hq
    have := hq (hh, .str z k') (Array.mem_toList_iff.mp (kp.mem_iff.mpr hm))
    simp [hz] at this
  | some i =>
    obtain ⟨hi, h1, h2⟩ := Array.findIdx?_eq_some_iff_getElem.mp hq
    refine ⟨i, rfl, hi, ?_, fun j hj => ?_⟩
    · rw [Array.getElem?_eq_getElem hi, hu _ (kp.mem_iff.mp (Array.mem_toList_iff.mpr (Array.getElem_mem hi))) h1]
    · rcases Nat.lt_or_ge j i with q | q
      · have hjs : j < es.size := by omega
        have := h2 j q
        rw [Array.getElem?_eq_getElem hjs] at hj
        rw [Option.some.inj hj] at this
        simp [hz] at this
      · exact q
theorem leaves_of {L : List (Int × Value)} {x : SV} {P : Params} {z : Str} {hh : Int} {k' : Tok} {i : Nat} (k : TI L.length x.t x.es) (kp : x.es.toList.Perm L) (hL : L.length = 33) (ht : ∀ e ∈ L, ∃ (y : Str) (j : Tok), e.2 = Value.str y j)
    (h1 : x.es.findIdx? (·.2.isStr z) = some i) (h2 : i < x.es.size) (h3 : x.es[i]? = some (hh, .str z k')) : Leaves P x.es x.t z k' i hh := by
  have hs : x.es.size = 33 := by rw [k.size, hL]
  have hp : x.t.place.size = 33 := by rw [k.place, hL]
  have hm : x.t.mask = 127 := by rw [k.mask, hL]; rfl
  have hi : i < x.t.place.size := by omega
  have hd : ((mergeT (copyT true P) x.t).drop i).place = SetTable.eraseAt x.t.place i ∧ ((mergeT (copyT true P) x.t).drop i).dummies.size = 1 ∧ ((mergeT (copyT true P) x.t).drop i).mask = 127 := by
    unfold SetTable.drop
    have : (mergeT (copyT true P) x.t).place[i]? = some x.t.place[i] := Array.getElem?_eq_getElem hi
    rw [this]
    refine ⟨rfl, ?_, hm⟩
    show (SetTable.insertAt x.t.dummies _ _).size = 1
    rw [insertAt_size, k.dum]; rfl
  refine ⟨k.fits (by omega), fun e he => ht e (kp.mem_iff.mp he), h1, h3, by omega, by omega, ?_, ?_, ?_⟩
  · rw [erase_size h2, hs]; decide
  · unfold SetTable.fits SetTable.fill
    rw [hd.1, hd.2.1, hd.2.2, erase_size h2, erase_size hi, hs, hp]; rfl
  · unfold SetTable.tooManyDummies
    rw [hd.2.1, hd.2.2]; rfl

noncomputable def l31 (P : Params) : List (Int × Value) := l22 P 32 ++ [(kh P 127, .str ⟨#[127]⟩ 330)]
theorem sd31 (P : Params) : SD (l31 P) (d31 P) := SD.add (SD.copy (sd22 P 32 (by decide))) (by rw [l22_len]; decide)
theorem l31_len (P : Params) : (l31 P).length = 33 := by rw [l31, List.length_append, l22_len]; rfl
theorem l31_mem (P : Params) (e : Int × Value) (h : e ∈ l31 P) : ∃ c j, e = (kh P c, .str ⟨#[c]⟩ j) ∧ (c < 32 ∧ j = 202 + 4 * c ∨ c = 127 ∧ j = 330) := by
  rw [l31, List.mem_append] at h
  rcases h with h | h
  · obtain ⟨i, h1, h2⟩ := l22_mem P 32 e h
    exact ⟨i, _, h2, .inl ⟨h1, rfl⟩⟩
  · rw [List.mem_singleton] at h
    exact ⟨127, _, h, .inr ⟨rfl, rfl⟩⟩
theorem l22_has (P : Params) (i : Nat) : ∀ j, i < j → (kh P i, Value.str ⟨#[i]⟩ (202 + 4 * i)) ∈ l22 P j
  | 0, h => absurd h (Nat.not_lt_zero _)
  | j + 1, h => by
    rw [l22, List.mem_append]
    by_cases e : i = j
    · subst e; exact .inr (List.mem_singleton.mpr rfl)
    · exact .inl (l22_has P i j (by omega))
theorem l31_tab (P : Params) : ∀ e ∈ l31 P, e.2.isStr ⟨#[9]⟩ = true → e = (kh P 9, .str ⟨#[9]⟩ 238) := fun e he h => by
  obtain ⟨c, j, rfl, hc⟩ := l31_mem P e he
  have : (⟨#[c]⟩ : Str) = ⟨#[9]⟩ := eq_of_beq h
  have hc9 : c = 9 := by injection this with e; simpa using e
  subst hc9
  rcases hc with ⟨_, rfl⟩ | ⟨h, _⟩
  · rfl
  · omega
section
variable {w : World}
theorem s1 (os : OsState) : ∃ n, n ≤ 5000 ∧ segRun treeTable prg w 11 ANN 1 n (SharedT.abs ⟨trP0 w.params, 15, {}, #[], {}, 189, os⟩) (piecesOf [stAt 1] envT cT ⟨1, 0, 1, 8⟩ BT0) = some (.next, SharedT.abs ⟨trP1 w.params, 32, {}, #[.finished], {}, 333, os⟩, cT, ⟨2, 0, 2, 10⟩) := by
  obtain ⟨x22, e22, k22, p22⟩ := (sd22 w.params 32 (by decide)).sv
  obtain ⟨x27, e27, k27, p27⟩ := (SD.add (h := kh w.params 127) (x := .str ⟨#[127]⟩ 330) (SD.fresh (P := w.params)) (by decide)).sv
  obtain ⟨x31, e31, k31, p31⟩ := (sd31 w.params).sv
  rw [l22_len] at k22
  have r1 : Reach w 86 _ _ _ _ := Reach.ofT (k_A w os)
  have r2 := loop22 (w := w) os (kOf 0 (stA w os)) (kOf 1 (stA w os)) (kOf 2 (stA w os)) 32 (by decide) (Nat.le_refl _)
  rw [← fs_of e22] at r2
  have r3 : Reach w 79 _ _ _ _ := Reach.ofT (k_s1e1 w os x22)
  have r4 : Reach w 19 (SharedT.abs ⟨t1a w.params x22 (svF w.params), 29, {}, #[.finished], {}, 331, os⟩) ⟨addV 27 (Code.builtin "set.update.loop" ⟨[(Value.ref 27), (Value.ref 28)], []⟩) (.str ⟨#[127]⟩ 330), Code.builtin "set.update.loop" ⟨[(Value.ref 27), (Value.ref 28)], []⟩, ⟨2, 54, 2, 73⟩, st_s1e1 w os x22⟩
      (SharedT.abs ⟨t1b w.params x22 x27, 29, {}, #[.finished], {}, 332, os⟩) ⟨.pure (.again (Code.builtin "set.update.loop" ⟨[(Value.ref 27), (Value.ref 28)], []⟩)), Code.builtin "set.update.loop" ⟨[(Value.ref 27), (Value.ref 28)], []⟩, ⟨2, 54, 2, 73⟩, st_s1e1 w os x22⟩ :=
    reach_addV (L := []) (d := freshD w.params) (by decide) rfl rfl SD.fresh (by decide) (fun e he => by simp at he) (by rw [← fs_of e27]; rfl)
  have r5 : Reach w 34 _ _ _ _ := Reach.ofT (k_s1e2 w os x22 x27)
  have r6 : Reach w 60 (SharedT.abs ⟨t1c w.params x22 x27, 31, {}, #[.finished], {}, 332, os⟩) ⟨denote treeTable (Code.builtin "frozenset.__or__" ⟨[(Value.ref 22), (Value.ref 27)], []⟩), Code.builtin "frozenset.__or__" ⟨[(Value.ref 22), (Value.ref 27)], []⟩, ⟨2, 13, 2, 73⟩, st_s1e2 w os x22 x27⟩
      (SharedT.abs ⟨t1d w.params x22 x27 x31, 32, {}, #[.finished], {}, 332, os⟩) ⟨.pure (.done (.ret (.ref 31))), Code.builtin "frozenset.__or__" ⟨[(Value.ref 22), (Value.ref 27)], []⟩, ⟨2, 13, 2, 73⟩, st_s1e2 w os x22 x27⟩ :=
    reach_or (big := true) (x := x22) (y := x27) (z := ⟨#[127]⟩) (k := 330) (h := kh w.params 127) (d := d31 w.params) (by decide) (by decide) rfl rfl rfl rfl (copies_of (L := l22 w.params 32) (by rw [l22_len]; exact k22) (by rw [l22_len]; simp)) (one_of p27) (by have := k27.fits (by show 1 < 40; decide); rw [one_of p27] at this; exact this)
      (joins_of (L := l22 w.params 32) (by rw [l22_len]; exact k22) p22 (by rw [l22_len]; simp) (l22_takes _ _ _ (by decide))) (by unfold d31 copyData; rw [e22]) (by rw [← fs_of e31]; rfl) rfl
  have fin := segRun_of (k_s1e3 w os x22 x27 x31)
  have all := (((((r1.trans r2).trans r3).trans r4).trans r5).trans r6)
  obtain ⟨n, hn, h⟩ := all.end fin
  refine ⟨n, Nat.le_trans hn (by decide), ?_⟩
  rw [h]
  have et : t1e w.params x22 x27 x31 = trP1 w.params := by
    unfold t1e trP1
    rw [fs_of e22, fs_of e31, show fs x27 = fo (d27 w.params) from fs_of e27]
  rw [et]
end
end
end Mine
end
section
open PySem PySem.W PyProof.Rows PySem.Calls
set_option maxRecDepth 100000
namespace Mine
noncomputable section
section
variable {w : World}
noncomputable abbrev c32 : Code := Code.builtin "set.update.loop" ⟨[(Value.ref 32), (Value.ref 33)], []⟩
noncomputable abbrev c37 : Code := Code.builtin "set.update.loop" ⟨[(Value.ref 37), (Value.ref 38)], []⟩
noncomputable abbrev c41 : Code := Code.builtin "set.update.loop" ⟨[(Value.ref 41), (Value.ref 42)], []⟩
noncomputable abbrev cSub : Code := Code.builtin "frozenset.__sub__" ⟨[(Value.ref 31), (Value.ref 32)], []⟩
noncomputable abbrev cOr5 : Code := Code.builtin "frozenset.__or__" ⟨[(Value.ref 37), (Value.ref 41)], []⟩
theorem d36_sv (P : Params) : ∃ (x : SV) (x31 : SV) (i : Nat), d31 P = .set x31.es x31.ep x31.t ∧ d36 P = .set x.es x.ep x.t ∧ d36 P = dropData i (copyD true P x31.es x31.t) ∧ TI 33 x31.t x31.es ∧ x31.es.toList.Perm (l31 P) ∧
    x31.es.findIdx? (·.2.isStr ⟨#[9]⟩) = some i ∧ i < x31.es.size ∧ x31.es[i]? = some (kh P 9, .str ⟨#[9]⟩ 238) ∧ x.es = SetTable.eraseAt x31.es i ∧ x.t = (mergeT (copyT true P) x31.t).drop i := by
  obtain ⟨x31, e31, k31, p31⟩ := (sd31 P).sv
  rw [l31_len] at k31
  obtain ⟨i, h1, h2, h3, _⟩ := find_z p31 (hh := kh P 9) (k' := 238) (z := ⟨#[9]⟩) (by rw [l31, List.mem_append]; exact .inl (l22_has P 9 32 (by decide))) (l31_tab P)
  have e : d36 P = dropData i (copyD true P x31.es x31.t) := by
    unfold d36 copyData
    rw [e31]
    show dropData ((x31.es.findIdx? (·.2.isStr ⟨#[9]⟩)).getD 0) (copyD true P x31.es x31.t) = _
    rw [h1]; rfl
  exact ⟨⟨_, 3, _⟩, x31, i, e31, e, e, k31, p31, h1, h2, h3, rfl, rfl⟩
theorem s2 (os : OsState) : ∃ n, n ≤ 500 ∧ segRun treeTable prg w 11 ANN 1 n (SharedT.abs ⟨trP1 w.params, 32, {}, #[.finished], {}, 333, os⟩) (piecesOf [stAt 2] envT cT ⟨2, 0, 2, 10⟩ BT0) = some (.next, SharedT.abs ⟨tg_p2 w.params, 37, {}, #[.finished], {}, 337, os⟩, cT, ⟨3, 0, 3, 23⟩) := by
  obtain ⟨x36, x31, i, e31, e36, e36', k31, p31, h1, h2, h3, _⟩ := d36_sv w.params
  obtain ⟨x32, e32, k32, p32⟩ := (SD.add (h := kh w.params 9) (x := .str ⟨#[9]⟩ 334) (SD.fresh (P := w.params)) (by decide)).sv
  have r1 : Reach w 31 _ _ _ _ := Reach.ofT (k_s2a w os x31)
  have r2 : Reach w 19 (SharedT.abs ⟨t2a w.params x31 (svF w.params), 34, {}, #[.finished], {}, 335, os⟩) ⟨addV 32 c32 (.str ⟨#[9]⟩ 334), c32, ⟨3, 39, 3, 54⟩, st_s2a w os x31⟩ (SharedT.abs ⟨t2b w.params x31 x32, 34, {}, #[.finished], {}, 336, os⟩) ⟨.pure (.again c32), c32, ⟨3, 39, 3, 54⟩, st_s2a w os x31⟩ :=
    reach_addV (L := []) (d := freshD w.params) (by decide) rfl rfl SD.fresh (by decide) (fun e he => by simp at he) (by rw [← fs_of e32]; rfl)
  have r3 : Reach w 34 _ _ _ _ := Reach.ofT (k_s2b w os x31 x32)
  have r4 : Reach w 80 (SharedT.abs ⟨t2c w.params x31 x32, 36, {}, #[.finished], {}, 336, os⟩) ⟨denote treeTable cSub, cSub, ⟨3, 26, 3, 54⟩, st_s2b w os x31 x32⟩ (SharedT.abs ⟨t2d w.params x31 x32 x36, 37, {}, #[.finished], {}, 336, os⟩) ⟨.pure (.done (.ret (.ref 36))), cSub, ⟨3, 26, 3, 54⟩, st_s2b w os x31 x32⟩ :=
    reach_sub (x := x31) (y := x32) (z := ⟨#[9]⟩) (k := 334) (k' := 238) (h := kh w.params 9) (hh := kh w.params 9) (i := i) (d := d36 w.params) (by decide) (by decide) rfl rfl rfl rfl (copies_of (L := l31 w.params) (by rw [l31_len]; exact k31) (by rw [l31_len]; simp)) (one_of p32) (by have := k32.fits (by show 1 < 40; decide); rw [one_of p32] at this; exact this)
      (leaves_of (L := l31 w.params) (by rw [l31_len]; exact k31) p31 (l31_len _) (fun e he => by obtain ⟨c, j, rfl, _⟩ := l31_mem _ e he; exact ⟨_, _, rfl⟩) h1 h2 h3) (fun s => eq_tab) e36'.symm (by rw [← fs_of e36]; rfl) rfl
  have fin := segRun_of (k_s2c w os x31 x32 x36)
  have es : t2s w.params x31 = trP1 w.params := by unfold t2s trP1; rw [fs_of e31]
  rw [← es]
  obtain ⟨n, hn, h⟩ := (((r1.trans r2).trans r3).trans r4).end fin
  refine ⟨n, Nat.le_trans hn (by decide), ?_⟩
  rw [h]
  have et : t2e w.params x31 x32 x36 = tg_p2 w.params := by
    unfold t2e tg_p2
    rw [fs_of e31, fs_of e36, show fs x32 = fo (d32 w.params) from fs_of e32]
  rw [et]
noncomputable def l37 (P : Params) : List (Int × Value) := [(kh P 32, .str ⟨#[32]⟩ 339), (kh P 9, .str ⟨#[9]⟩ 341)]
theorem sd37 (P : Params) : SD (l37 P) (d37 P) := SD.add (L := [(kh P 32, .str ⟨#[32]⟩ 339)]) (SD.add SD.fresh (by decide)) (by show 1 < 39; decide)
noncomputable def l45 (P : Params) : List (Int × Value) := l37 P ++ [(kh P 10, .str ⟨#[10]⟩ 345)]
theorem sd45 (P : Params) : SD (l45 P) (d45 P) := SD.add (SD.copy (sd37 P)) (by show 2 < 39; decide)
theorem s4 (os : OsState) : ∃ n, n ≤ 500 ∧ segRun treeTable prg w 11 ANN 1 n (SharedT.abs ⟨t4s w.params, 37, {}, #[.finished], {}, 338, os⟩) (piecesOf [stAt 4] envT cT ⟨4, 0, 4, 21⟩ BT0) = some (.next, SharedT.abs ⟨tg_p4 w.params, 41, {}, #[.finished], {}, 344, os⟩, cT, ⟨5, 0, 5, 7⟩) := by
  obtain ⟨xa, ea, ka, pa⟩ := (SD.add (h := kh w.params 32) (x := .str ⟨#[32]⟩ 339) (SD.fresh (P := w.params)) (by decide)).sv
  obtain ⟨x37, e37, k37, p37⟩ := (sd37 w.params).sv
  have r1 : Reach w 29 _ _ _ _ := Reach.ofT (k_s4a w os)
  have r2 : Reach w 19 (SharedT.abs ⟨t4a w.params (svF w.params), 39, {}, #[.finished], {}, 340, os⟩) ⟨addV 37 c37 (.str ⟨#[32]⟩ 339), c37, ⟨5, 10, 5, 26⟩, st_s4a w os⟩ (SharedT.abs ⟨t4b w.params xa, 39, {}, #[.finished], {}, 341, os⟩) ⟨.pure (.again c37), c37, ⟨5, 10, 5, 26⟩, st_s4a w os⟩ :=
    reach_addV (L := []) (d := freshD w.params) (by decide) rfl rfl SD.fresh (by decide) (fun e he => by simp at he) (by rw [← fs_of ea]; rfl)
  have r3 : Reach w 11 _ _ _ _ := Reach.ofT (k_s4b w os xa)
  have hk : SD [(kh w.params 32, .str ⟨#[32]⟩ 339)] (.set xa.es xa.ep xa.t) := ⟨_, _, _, rfl, ka, pa⟩
  have r4 : Reach w 19 (SharedT.abs ⟨t4c w.params xa, 39, {}, #[.finished], {}, 342, os⟩) ⟨addV 37 c37 (.str ⟨#[9]⟩ 341), c37, ⟨5, 10, 5, 26⟩, st_s4b w os xa⟩ (SharedT.abs ⟨t4d w.params x37, 39, {}, #[.finished], {}, 343, os⟩) ⟨.pure (.again c37), c37, ⟨5, 10, 5, 26⟩, st_s4b w os xa⟩ :=
    reach_addV (d := .set xa.es xa.ep xa.t) (by decide) rfl rfl hk (by show 1 < 39; decide) (fun e he => by rw [List.mem_singleton] at he; subst he; exact ⟨_, _, rfl, str1_ne (by decide)⟩) (by rw [← ea]; show _ = t4d w.params x37; unfold t4d; rw [show fs x37 = fo (addData (kh w.params 9) (.str ⟨#[9]⟩ 341) (addData (kh w.params 32) (.str ⟨#[32]⟩ 339) (freshD w.params))) from fs_of e37]; rfl)
  have fin := segRun_of (k_s4c w os xa x37)
  obtain ⟨n, hn, h⟩ := (((r1.trans r2).trans r3).trans r4).end fin
  refine ⟨n, Nat.le_trans hn (by decide), ?_⟩
  rw [h]
  have et : t4e w.params x37 = tg_p4 w.params := by
    unfold t4e tg_p4
    rw [fs_of e37]
  rw [et]
theorem s5 (os : OsState) : ∃ n, n ≤ 500 ∧ segRun treeTable prg w 11 ANN 1 n (SharedT.abs ⟨tg_p4 w.params, 41, {}, #[.finished], {}, 344, os⟩) (piecesOf [stAt 5] envT cT ⟨5, 0, 5, 7⟩ BT0) = some (.next, SharedT.abs ⟨tg_p5 w.params, 46, {}, #[.finished], {}, 348, os⟩, cT, ⟨6, 0, 6, 19⟩) := by
  obtain ⟨x37, e37, k37, p37⟩ := (sd37 w.params).sv
  obtain ⟨x41, e41, k41, p41⟩ := (SD.add (h := kh w.params 10) (x := .str ⟨#[10]⟩ 345) (SD.fresh (P := w.params)) (by decide)).sv
  obtain ⟨x45, e45, k45, p45⟩ := (sd45 w.params).sv
  have r1 : Reach w 31 _ _ _ _ := Reach.ofT (k_s5a w os x37)
  have r2 : Reach w 19 (SharedT.abs ⟨t5a w.params x37 (svF w.params), 43, {}, #[.finished], {}, 346, os⟩) ⟨addV 41 c41 (.str ⟨#[10]⟩ 345), c41, ⟨6, 32, 6, 47⟩, st_s5a w os x37⟩ (SharedT.abs ⟨t5b w.params x37 x41, 43, {}, #[.finished], {}, 347, os⟩) ⟨.pure (.again c41), c41, ⟨6, 32, 6, 47⟩, st_s5a w os x37⟩ :=
    reach_addV (L := []) (d := freshD w.params) (by decide) rfl rfl SD.fresh (by decide) (fun e he => by simp at he) (by rw [← fs_of e41]; rfl)
  have r3 : Reach w 34 _ _ _ _ := Reach.ofT (k_s5b w os x37 x41)
  have r4 : Reach w 60 (SharedT.abs ⟨t5c w.params x37 x41, 45, {}, #[.finished], {}, 347, os⟩) ⟨denote treeTable cOr5, cOr5, ⟨6, 22, 6, 47⟩, st_s5b w os x37 x41⟩ (SharedT.abs ⟨t5d w.params x37 x41 x45, 46, {}, #[.finished], {}, 347, os⟩) ⟨.pure (.done (.ret (.ref 45))), cOr5, ⟨6, 22, 6, 47⟩, st_s5b w os x37 x41⟩ :=
    reach_or (big := false) (x := x37) (y := x41) (z := ⟨#[10]⟩) (k := 345) (h := kh w.params 10) (d := d45 w.params) (by decide) (by decide) rfl rfl rfl rfl (copies_of (L := l37 w.params) k37 rfl) (one_of p41) (by have := k41.fits (by show 1 < 40; decide); rw [one_of p41] at this; exact this)
      (joins_of (L := l37 w.params) k37 p37 rfl (fun e he => by
        unfold l37 at he
        simp only [List.mem_cons, List.not_mem_nil, or_false] at he
        rcases he with rfl | rfl
        · exact ⟨_, _, rfl, str1_ne (by decide)⟩
        · exact ⟨_, _, rfl, str1_ne (by decide)⟩)) (by unfold d45 copyData; rw [e37]) (by rw [← fs_of e45]; rfl) rfl
  have fin := segRun_of (k_s5c w os x37 x41 x45)
  have es : t5s w.params x37 = tg_p4 w.params := by unfold t5s tg_p4; rw [fs_of e37]
  rw [← es]
  obtain ⟨n, hn, h⟩ := (((r1.trans r2).trans r3).trans r4).end fin
  refine ⟨n, Nat.le_trans hn (by decide), ?_⟩
  rw [h]
  have et : t5e w.params x37 x41 x45 = tg_p5 w.params := by
    unfold t5e tg_p5
    rw [fs_of e37, fs_of e45, show fs x41 = fo (d41 w.params) from fs_of e41]
  rw [et]
end
end
end Mine
end
section
open PySem PySem.W PyProof.Rows PySem.Calls
set_option maxRecDepth 100000
namespace Mine
noncomputable section
theorem body_eq : behindTheImports prg = [stAt 0] ++ ([stAt 1] ++ ([stAt 2] ++ ([stAt 3] ++ ([stAt 4] ++ ([stAt 5] ++ ([stAt 6] ++ ([stAt 7, stAt 8, stAt 9, stAt 10, stAt 11] ++ ([stAt 12, stAt 13, stAt 14, stAt 15, stAt 16] ++
  ([stAt 17, stAt 18, stAt 19, stAt 20, stAt 21, stAt 22, stAt 23, stAt 24, stAt 25, stAt 26, stAt 27, stAt 28, stAt 29, stAt 30, stAt 31, stAt 32, stAt 33, stAt 34, stAt 35] ++ ([stAt 36] ++ ([stAt 37, stAt 38, stAt 39, stAt 40, stAt 41] ++ ([stAt 42, stAt 43, stAt 44, stAt 45, stAt 46] ++ ([stAt 47, stAt 48, stAt 49] ++ []))))))))))))) := by kernel_rfl
theorem size_eq (w : World) : ((boot_heap w.params).isNs mainGlobals && (#[] : Array GenState).size == 0, (boot_heap w.params).objs.size, (boot_heap w.params).nsMap mainGlobals "__annotations__") = (true, 11, ANN) := by kernel_rfl
theorem open_eq : opening prg = plainProg prg.main.scope.names := by kernel_rfl
theorem fence_eq (s : Shared) : fenceModules? prg s = some s := by kernel_rfl
theorem open_ok : ∀ w : World, (fencedOpening treeTable prg w 20000).map (fun s => (s.heap, s.gens, s.drawn, s.toks)) = some (boot_heap w.params, Array.mk [], boot_drawn, boot_toks) := boot_open open_eq (by decide) fence_eq
section
variable {w : World}
theorem app' {A B : Nat} {s s' r : Shared} {l rest : List Stmt} {pos p' : Pos} (h : ∃ n, n ≤ A ∧ segRun treeTable prg w 11 ANN 1 n s (piecesOf l envT cT pos BT0) = some (.next, s', cT, p'))
    (k : ∃ N, N ≤ B ∧ topRun treeTable prg w 11 ANN N s' (restOf rest envT cT p' BT0) = some r) : ∃ N, N ≤ A + B ∧ topRun treeTable prg w 11 ANN N s (restOf (l ++ rest) envT cT pos BT0) = some r :=
  let ⟨n, hn, e⟩ := h; let ⟨N, hN, f⟩ := k; ⟨n + N, Nat.add_le_add hn hN, piece_app e f⟩
theorem sg {n : Nat} {s s' : SharedT} {t : Thread} {f : Flow} {c : Code} {q : Pos} (h : segRunT treeTable prg w 11 ANN 1 n s t = some (f, s', c, q)) : ∃ m, m ≤ n ∧ segRun treeTable prg w 11 ANN 1 m s.abs t = some (f, s'.abs, c, q) := ⟨n, Nat.le_refl _, segRun_of h⟩
theorem run_body (os : OsState) : ∃ N, N ≤ 12000 ∧ topRun treeTable prg w 11 ANN N (SharedT.abs ⟨trBlock w.params, 15, {}, #[], {}, 187, os⟩) (restOf (behindTheImports prg) envT cT ⟨0, 0, 0, 0⟩ BT0) = some ⟨hpFin w.params, #[.finished], {}, 607, os⟩ := by
  rw [body_eq]
  have e34 : t4s w.params = tg_p3 w.params := rfl
  have h4 := s4 (w := w) os
  rw [e34] at h4
  have fin : ∃ N, N ≤ 2 ∧ topRun treeTable prg w 11 ANN N (SharedT.abs ⟨tg_p49 w.params, 217, {}, #[.finished], {}, 607, os⟩) (restOf [] envT cT ⟨218, 0, 227, 85⟩ BT0) = some ⟨hpFin w.params, #[.finished], {}, 607, os⟩ := ⟨2, Nat.le_refl _, piece_nil (k_fin w os)⟩
  have all := app' (sg (k_p0 w os)) (app' (s1 os) (app' (s2 os) (app' (sg (k_g3 w os)) (app' h4 (app' (s5 os) (app' (sg (k_g6 w os)) (app' (sg (k_g7 w os)) (app' (sg (k_g12 w os)) (app' (sg (k_g17 w os)) (app' (sg (k_g36 w os)) (app' (sg (k_g37 w os)) (app' (sg (k_g42 w os)) (app' (sg (k_g47 w os)) fin)))))))))))))
  obtain ⟨N, hN, h⟩ := all
  exact ⟨N, Nat.le_trans hN (by decide), h⟩
theorem run_all (w : World) (os : OsState) : topRun treeTable prg w 11 ANN 20000 ⟨boot_heap w.params, Array.mk [], boot_drawn, boot_toks, os⟩ (topStub prg) = some ⟨hpFin w.params, #[.finished], {}, 607, os⟩ := by
  obtain ⟨N, hN, h⟩ := run_body (w := w) os
  have hb := piece_block (k_block w os) h
  have hp := go_top (k_pre w os) hb
  have m := topRun_mono (20000 - (12 + (1 + N))) _ _ _ _ hp
  rw [show 12 + (1 + N) + (20000 - (12 + (1 + N))) = 20000 by omega] at m
  exact m
end
noncomputable def qV : Program := view prg [49]
noncomputable def looseV : List Str := [Str.ofString "ASCII_CTRL", Str.ofString "ILLEGAL_BASIC_STR_CHARS", Str.ofString "ILLEGAL_COMMENT_CHARS", Str.ofString "TOML_WS", Str.ofString "TOML_WS_AND_NEWLINE", Str.ofString "TOMLDecodeError", Str.ofString "skip_chars", Str.ofString "skip_until", Str.ofString "skip_comment", Str.ofString "skip_comments_and_array_ws", Str.ofString "suffixed_err", Str.ofString "_initial_missing", Str.ofString "reduce", Str.ofString "S_IFMT", Str.ofString "S_IFDIR", Str.ofString "S_IFCHR", Str.ofString "S_IFBLK", Str.ofString "S_IFREG", Str.ofString "S_IFIFO", Str.ofString "S_IFLNK", Str.ofString "S_IFSOCK", Str.ofString "S_ISUID", Str.ofString "S_ISGID", Str.ofString "S_ISVTX", Str.ofString "S_IRUSR", Str.ofString "S_IWUSR", Str.ofString "S_IXUSR", Str.ofString "S_IRGRP", Str.ofString "S_IWGRP", Str.ofString "S_IXGRP", Str.ofString "S_IROTH", Str.ofString "S_IWOTH", Str.ofString "S_IXOTH", Str.ofString "_filemode_table", Str.ofString "filemode", Str.ofString "_law_clause", Str.ofString "_law_written", Str.ofString "_law_read", Str.ofString "_law_worths", Str.ofString "_law_seen", Str.ofString "_law_step", Str.ofString "_law_traced", Str.ofString "_law_due", Str.ofString "_law_spot", Str.ofString "_law_fault"]
theorem look1 (w : World) (os : OsState) : (staticsOk (importedModules prg.main.body) (boot_heap w.params) (hpFin w.params) && namesBound prg (hpFin w.params) && gensDone ⟨hpFin w.params, #[.finished], {}, 607, os⟩ && laidKept (boot_heap w.params) (hpFin w.params)) = true := by kernel_rfl
theorem look2 (w : World) (os : OsState) : openSeen qV looseV (importedModules prg.main.body) (fun _ => true) false ⟨hpFin w.params, #[.finished], {}, 607, os⟩ = openGood qV looseV := by kernel_rfl
end
end Mine
end
section
open PySem PySem.W PyProof.Rows PySem.Calls
set_option maxRecDepth 100000
set_option maxHeartbeats 4000000
namespace Mine
noncomputable section
theorem left : LeftO prg qV looseV (fun _ => true) (fun s => s.heap) (fun w => hpFin w.params) 20000 false := LeftO.of_pieces open_ok size_eq run_all (by decide) (fun w => funext fun os => by rw [look1, look2])
theorem law_some : (defOf qV "law").isSome = true := by kernel_rfl
noncomputable def lawD : DefRec := ((defOf qV "law").get law_some).1
noncomputable abbrev YPf (w : World) (h : Heap) : Prop := ∀ b o, (hpFin w.params).get? b = some o → h.get? b = some o
end
end Mine
end
section
open PySem PySem.W PyProof.Rows PySem.Calls
set_option maxRecDepth 100000
namespace Mine

/-- GoodW, where a code's table may grow -/
noncomputable def GoodWE (c : ClaimW) (cl : Str → Option Addr) (mean : ExcName → Option Value) (args : List WData) (s₁ : Shared) (res : Result) (s' : Shared) : Prop :=
  ((∃ v d as, res = .ok (.ret v) ∧ (∀ cls, c.raises args cls = false) ∧ ReadsW c.records cl s'.heap v d as ∧ c.post args d args = true ∧
      (c.unshared = true → as.Nodup ∧ ∀ a ∈ as, s₁.heap.get? a = none)) ∨
    (∃ e ob cls, res = .error (.ref e) ∧ s'.heap.get? e = some ob ∧ mean cls = some ob.cls ∧ c.raises args cls = true ∧ s₁.heap.get? e = none)) ∧
  OldK s₁.heap s'.heap ∧ s'.os = s₁.os ∧ s'.gens = #[]
theorem GoodWE.endsN {c : ClaimW} {s₀ s₁ s' : Shared} {args : List WData} {vs : List Value} {as : List Addr} {r : Result} (hsame : c.same = none) (hwi : c.within = []) (hi : ∀ a b, c.ident a b = true)
    (hrd : ReadsAllW c.records (classAt s₀.heap) s₁.heap vs args as) (hold : ∀ a ∈ as, ∃ o, s₁.heap.get? a = some o) (hos₁ : s₁.os = s₀.os)
    (g : GoodWE c (classAt s₀.heap) (ExcName.means s₀.heap) args { s₁ with gens := #[] } r s') : c.Ends s₀ args vs s₁ r s' ∧ s'.os = s₀.os ∧ s'.gens = #[] := by
  obtain ⟨hcase, hK, hos, hg'⟩ := g
  refine ⟨?_, hos.trans hos₁, hg'⟩
  rcases hcase with ⟨v, d, bs, rfl, hnr, hrv, hpost, hun⟩ | ⟨e, ob, cls, rfl, he, hcls, hpr, hnew⟩
  · exact .inl ⟨v, rfl, hnr, ⟨d, args, bs, as, hrv, hrd.keepsK fun b o e hc => hK.get_of_cls e hc, hpost, fun hu => ⟨(hun hu).1, (hun hu).2, fun a ha hb' => by
      obtain ⟨o, ho⟩ := hold a hb'
      have := (hun hu).2 a ha
      rw [show s₁.heap.get? a = none from this] at ho; cases ho⟩, fun _ _ => hi _ _⟩, (fun i hi' => by rw [hsame] at hi'; cases hi'), (fun b o hb' _ _ => hK.old b o hb'), fun i hi' => by rw [hwi] at hi'; cases hi'⟩
  · exact .inr ⟨e, ob, cls, rfl, he, hcls, hpr, hnew, fun b o hb' => hK.old b o hb'⟩
end Mine
end
section
open PySem PySem.W PyProof.Rows PySem.Calls
set_option maxRecDepth 100000
set_option maxHeartbeats 4000000
namespace Mine
noncomputable section
noncomputable abbrev rowL : RowW := PySem.Challenge.rw_oy0153_01.row.toRowW
/-- the call, as the head wants it -/
noncomputable def WalkE : Prop :=
  ∀ (w : World) (s₀ s₁ : Shared) (mg mb : Str → Option Value), Ground qV looseV rowL.records (fun _ _ => True) w s₀ mg mb s₁.heap → YPf w s₁.heap → ∀ (a : Addr) (o : Obj) (pm cd doc dV kV : Value), s₁.heap.get? a = some o →
    o.data = .func { docDef lawD.name lawD.params lawD.body lawD.scope pm cd doc with defaults := dV, kwdefaults := kV } → s₁.heap.CodeRec cd lawD.name → Dflts mg s₁.heap lawD.params [] dV kV → mg lawD.name = some (.ref a) → s₁.gens = #[] →
    ∀ (args : List WData) (vals : List Value) (as : List Addr), rowL.claim.pre args = true → WData.layableAll args = true → ReadsAllW rowL.records (classAt s₀.heap) s₁.heap vals args as →
      wpAny (model rowL.prog w) callerA (PySem.call (.ref a) vals) (fun v s' => GoodWE rowL.claim (classAt s₀.heap) (ExcName.means s₀.heap) args s₁ (.ok (.ret v)) s')
        (fun e s' => GoodWE rowL.claim (classAt s₀.heap) (ExcName.means s₀.heap) args s₁ (.error e) s') s₁
noncomputable abbrev lawL : OpenLaw := PySem.Challenge.rw_oy0153_01
theorem rowSaid : lawL.row.wellSaid = true := by
  unfold OpenRow.wellSaid OpenRow.partSaid looksOpen
  repeat' with_reducible refine look_both ?_ ?_
  all_goals decide +kernel
theorem lawSaid : lawL.wellSaid = true := by
  unfold OpenLaw.wellSaid
  repeat' with_reducible refine look_both ?_ ?_
  · exact rowSaid
  all_goals decide +kernel
theorem headE (hw : rowL.promised) (call : WalkE) : PySem.Challenge.rw_oy0153_01.Holds := by
  refine holds_law lawSaid fun said => ?_
  refine ⟨said, hw, ?_⟩
  have hX : ∀ s : Shared, (fun _ : Shared => true) s = true → (fun (_ : Str → Option Value) (_ : Heap) => True) (s.heap.nsMap mainGlobals) s.heap := fun _ _ => trivial
  have hXk : ∀ (mg : Str → Option Value) (h h' : Heap), (fun (_ : Str → Option Value) (_ : Heap) => True) mg h → (∀ b o, h.get? b = some o → h'.get? b = some o) → (fun (_ : Str → Option Value) (_ : Heap) => True) mg h' := fun _ _ _ _ _ => trivial
  have hRf : ∀ s : Shared, (fun _ : Shared => true) s = true → RecFacts rowL.records s.heap := fun s _ => recFacts_nil rfl
  have ok : (chainsOk qV && opensWell rowL.prog && (frees rowL && rowL.within.isEmpty)) = true := by decide +kernel
  have hdef : defOf qV "law" = some (lawD, []) := by kernel_rfl
  obtain ⟨ok, k5⟩ := Bool.and_eq_true_iff.mp ok
  obtain ⟨hch, o1⟩ := Bool.and_eq_true_iff.mp ok
  obtain ⟨k5, k6⟩ := Bool.and_eq_true_iff.mp k5
  obtain ⟨hsame, hu, ha, hap, hm⟩ := frees_parts k5
  have hi := ident_freeW hu ha hap
  have hwi : rowL.claim.within = [] := List.isEmpty_iff.mp k6
  refine ⟨⟨⟨rfl, rfl, rfl, rfl, rfl, by decide +kernel⟩, o1, rfl⟩, hw.witness, fun w => ⟨(left.behind (XP := fun _ _ => True) (fun _ _ => trivial) hch w).1, fun s' hs' => ?_⟩⟩
  obtain ⟨s₀, hf, hg0, s, hT, hz, hgens, hg, G00, y⟩ := (left.behind (XP := fun _ h => True ∧ RecFacts rowL.records h) (fun s hs => ⟨trivial, hRf s hs⟩) hch w).2 s' hs'
  have G0 : Ground qV looseV [] (fun _ _ => True) w s (s.heap.nsMap mainGlobals) (s.heap.nsMap builtinsNs) s.heap := ⟨G00.T, G00.B, G00.D, G00.TE, G00.TD, G00.W, G00.X.1, G00.cls, G00.has, G00.apart, G00.once, G00.K⟩
  have RF := G00.X.2
  have hT' := hT
  refine ⟨s₀, hf, hg0, s, hT, fun n hn => ?_, RF.1, RF.2.1, ?_⟩
  · obtain rfl : n = ("law" : Str) := by
      split at hn
      · exact List.mem_singleton.mp hn
      · cases hn
    exact pinned_of_view hg G0 hdef (by kernel_rfl) (by kernel_rfl)
  have hgens' : leftWithCleanup s.gens = false := by simpa using hgens
  have G : Ground qV looseV rowL.records (fun _ _ => True) w s _ _ s.heap := RF.ground G0
  refine ClaimW.callFrom_of_specN (c := rowL.claim) hz hgens' fun args hpre hlay ord hord => ?_
  obtain ⟨⟨vs, s₁⟩, hlaid⟩ := Option.isSome_iff_exists.mp (layAllW_isSome (P := w.params) (ord := ord) G.has args rowL.args s (pre_splitW hpre).1)
  have keeps := layAllW_keeps _ _ _ hlaid
  have hal := layAllW_rest _ _ _ hlaid
  obtain ⟨as, hrd, hin, hold⟩ := reads_layAllW hord _ _ _ hlaid hlay s₁.heap (fun _ _ e => e)
  have G₁ := G.keeps hXk keeps
  obtain ⟨a, o, pm, cd, doc, dV, kV, h1, h2, h3, h4, h5⟩ := G₁.fn hdef
  have Y : YPf w s₁.heap := fun b o e => keeps b o (by rw [y]; exact e)
  have h := call w s { s₁ with gens := #[] } _ _ G₁ Y a o pm cd doc dV kV h2 h3 h4 h5 h1 rfl args vs as hpre hlay hrd
  refine ⟨vs, s₁, hlaid, ?_⟩
  refine wpAny_bind (wpAny_nsGet (s := { s₁ with gens := #[] }) G₁.T.g ?_)
  rw [show s.heap.nsMap mainGlobals PySem.Challenge.rw_oy0153_01.row.name = some (.ref a) from h1]
  refine wpAny_bind (wpAny_mono h (fun v s' g => wpAny_pure ⟨_, rfl, ?_⟩) fun e s' g => ?_)
  · have z := g.endsN (c := rowL.claim) hsame hwi hi hrd hold hal.2.2.1
    exact ⟨z.1, z.2.1, z.2.2, fun q => ⟨namesKept_of hT' hg _ keeps g.2.1.old, noTable rfl q⟩⟩
  · have z := g.endsN (c := rowL.claim) hsame hwi hi hrd hold hal.2.2.1
    exact ⟨z.1, z.2.1, z.2.2, fun q => ⟨namesKept_of hT' hg _ keeps g.2.1.old, noTable rfl q⟩⟩
end
end Mine
end
section
open PySem PySem.W PyProof.Rows PySem.Calls PySem.SeqAt
set_option maxRecDepth 100000
set_option maxHeartbeats 4000000
namespace Mine
noncomputable section
/-- the names as the top leaves them -/
noncomputable def GLf (P : Params) (x : Str) : Option Value := ((hpFin P).nsMap mainGlobals x).or ((hpFin P).nsMap builtinsNs x)
noncomputable abbrev hB (P : Params) : Heap := (hpFin P).hide 88
theorem ns_hide {h : Heap} {a X : Addr} {m : Str → Option Value} (n : h.Ns a m) (hne : a ≠ X) : (h.hide X).Ns a m := let ⟨o, es, ep, e, r⟩ := n; ⟨o, es, ep, hide_get e hne, r⟩
section
variable {P : Params}
theorem nsG : (hpFin P).Ns mainGlobals ((hpFin P).nsMap mainGlobals) := .of_isNs (by kernel_rfl)
theorem nsB : (hpFin P).Ns builtinsNs ((hpFin P).nsMap builtinsNs) := .of_isNs (by kernel_rfl)
theorem nsS : (hpFin P).Ns cStatics ((hpFin P).nsMap cStatics) := .of_isNs (by kernel_rfl)
theorem wdF : Wd (GLf P) (hB P) where
  load := fun M A E Q s env x v h st hg hb hq => by
    have g := (ns_hide (X := 88) (nsG (P := P)) (by decide)).keeps st
    have b := (ns_hide (X := 88) (nsB (P := P)) (by decide)).keeps st
    unfold GLf at h
    cases hm : (hpFin P).nsMap mainGlobals x with
    | some u =>
      rw [hm] at h
      obtain rfl : u = v := Option.some.inj h
      exact loadGlobal_global (by rw [hg]; exact g) hm hq
    | none =>
      rw [hm] at h
      exact loadGlobal_builtin (by rw [hg]; exact g) hm (by rw [hb]; exact b) h hq
  nolimit := ⟨_, ns_hide nsS (by decide), by kernel_rfl⟩
noncomputable def fdOf (o : Obj) : FuncData := match o.data with
  | .func fd => fd
  | _ => default
noncomputable def vsOf (o : Obj) : Array Value := match o.data with
  | .fields vs => vs
  | _ => #[]
noncomputable def tokAt (v : Option Value) : Tok := match v with
  | some (.str _ t) => t
  | _ => 0
theorem fn_at {f c : Addr} (o oc : Obj) {st : Stmt} (hf : (hpFin P).get? f = some o) (hoc : (hpFin P).get? c = some oc) (hd : o.data = .func (fdOf o)) (hc : (fdOf o).code = .ref c) (hv : oc.data = .fields (vsOf oc)) (hq : (vsOf oc)[1]? = some (.str (fdOf o).qualname (tokAt (vsOf oc)[1]?)))
    (hfX : f ≠ 88) (hcX : c ≠ 88) (e1 : (fdOf o).body = .stmts (bodyOf st)) (e2 : (fdOf o).closure = []) (e3 : (fdOf o).globals = mainGlobals) (e4 : (fdOf o).builtins = builtinsNs) : Fn (hB P) f (fdOf o) (bodyOf st) :=
  ⟨⟨o, hide_get hf hfX, hd⟩, ⟨c, oc, vsOf oc, tokAt (vsOf oc)[1]?, hc, hide_get hoc hcX, hv, hq⟩, e1, e2, e3, e4⟩
theorem binds1 {fd : FuncData} {n₁ : Str} (h : ∀ a, bindArgs fd ⟨[a], []⟩ = pure [(n₁, a)]) (s : Shared) (xs : List Value) (hx : xs.length = 1) : BindsTo s fd ⟨xs, []⟩ ([n₁].zip xs) := by
  match xs, hx with
  | [a], _ => exact BindsTo.of_eq (h a)
theorem binds2 {fd : FuncData} {n₁ n₂ : Str} (h : ∀ a b, bindArgs fd ⟨[a, b], []⟩ = pure [(n₁, a), (n₂, b)]) (s : Shared) (xs : List Value) (hx : xs.length = 2) : BindsTo s fd ⟨xs, []⟩ ([n₁, n₂].zip xs) := by
  match xs, hx with
  | [a, b], _ => exact BindsTo.of_eq (h a b)
theorem binds3 {fd : FuncData} {n₁ n₂ n₃ : Str} (h : ∀ a b c, bindArgs fd ⟨[a, b, c], []⟩ = pure [(n₁, a), (n₂, b), (n₃, c)]) (s : Shared) (xs : List Value) (hx : xs.length = 3) : BindsTo s fd ⟨xs, []⟩ ([n₁, n₂, n₃].zip xs) := by
  match xs, hx with
  | [a, b, c], _ => exact BindsTo.of_eq (h a b c)
theorem binds4 {fd : FuncData} {n₁ n₂ n₃ n₄ : Str} (h : ∀ a b c d, bindArgs fd ⟨[a, b, c, d], []⟩ = pure [(n₁, a), (n₂, b), (n₃, c), (n₄, d)]) (s : Shared) (xs : List Value) (hx : xs.length = 4) : BindsTo s fd ⟨xs, []⟩ ([n₁, n₂, n₃, n₄].zip xs) := by
  match xs, hx with
  | [a, b, c, d], _ => exact BindsTo.of_eq (h a b c d)
theorem isdef_at {f c : Addr} {names : List Str} (o oc : Obj) {st : Stmt} (hb : ∀ (s : Shared) (xs : List Value), xs.length = names.length → BindsTo s (fdOf o) ⟨xs, []⟩ (names.zip xs)) (hf : (hpFin P).get? f = some o) (hoc : (hpFin P).get? c = some oc) (hd : o.data = .func (fdOf o)) (hc : (fdOf o).code = .ref c) (hv : oc.data = .fields (vsOf oc)) (hq : (vsOf oc)[1]? = some (.str (fdOf o).qualname (tokAt (vsOf oc)[1]?)))
    (hfX : f ≠ 88) (hcX : c ≠ 88) (e1 : (fdOf o).body = .stmts (bodyOf st)) (e2 : (fdOf o).closure = []) (e3 : (fdOf o).globals = mainGlobals) (e4 : (fdOf o).builtins = builtinsNs) (e5 : (fdOf o).scope = scopeOf st) : IsDef (hB P) f st names :=
  ⟨fdOf o, fn_at o oc hf hoc hd hc hv hq hfX hcX e1 e2 e3 e4, e5, fun s xs _ hx => hb s xs hx⟩
theorem isdef_ifmt : IsDef (hB P) 109 (stAt 16) ["mode"] := isdef_at (c := 108) (ob109_0 P) (ob108_0 P) (binds1 fun a => by kernel_rfl) (by kernel_rfl) (by kernel_rfl) (by kernel_rfl) (by kernel_rfl) (by kernel_rfl) (by kernel_rfl) (by decide) (by decide) (by kernel_rfl) (by kernel_rfl) (by kernel_rfl) (by kernel_rfl) (by kernel_rfl)
theorem def_ifmt : DefAt (GLf P) (hB P) "S_IFMT" 16 ["mode"] := ⟨109, by kernel_rfl, isdef_ifmt⟩
theorem isdef_filemode : IsDef (hB P) 149 (stAt 37) ["mode"] := isdef_at (c := 148) (ob149_0 P) (ob148_0 P) (binds1 fun a => by kernel_rfl) (by kernel_rfl) (by kernel_rfl) (by kernel_rfl) (by kernel_rfl) (by kernel_rfl) (by kernel_rfl) (by decide) (by decide) (by kernel_rfl) (by kernel_rfl) (by kernel_rfl) (by kernel_rfl) (by kernel_rfl)
theorem def_filemode : DefAt (GLf P) (hB P) "filemode" 37 ["mode"] := ⟨149, by kernel_rfl, isdef_filemode⟩
theorem isdef_clause : IsDef (hB P) 156 (stAt 39) ["x"] := isdef_at (c := 155) (ob156_0 P) (ob155_0 P) (binds1 fun a => by kernel_rfl) (by kernel_rfl) (by kernel_rfl) (by kernel_rfl) (by kernel_rfl) (by kernel_rfl) (by kernel_rfl) (by decide) (by decide) (by kernel_rfl) (by kernel_rfl) (by kernel_rfl) (by kernel_rfl) (by kernel_rfl)
theorem def_clause : DefAt (GLf P) (hB P) "_law_clause" 39 ["x"] := ⟨156, by kernel_rfl, isdef_clause⟩
theorem isdef_written : IsDef (hB P) 161 (stAt 40) ["clause"] := isdef_at (c := 160) (ob161_0 P) (ob160_0 P) (binds1 fun a => by kernel_rfl) (by kernel_rfl) (by kernel_rfl) (by kernel_rfl) (by kernel_rfl) (by kernel_rfl) (by kernel_rfl) (by decide) (by decide) (by kernel_rfl) (by kernel_rfl) (by kernel_rfl) (by kernel_rfl) (by kernel_rfl)
theorem def_written : DefAt (GLf P) (hB P) "_law_written" 40 ["clause"] := ⟨161, by kernel_rfl, isdef_written⟩
theorem isdef_worths : IsDef (hB P) 175 (stAt 42) ["c"] := isdef_at (c := 174) (ob175_0 P) (ob174_0 P) (binds1 fun a => by kernel_rfl) (by kernel_rfl) (by kernel_rfl) (by kernel_rfl) (by kernel_rfl) (by kernel_rfl) (by kernel_rfl) (by decide) (by decide) (by kernel_rfl) (by kernel_rfl) (by kernel_rfl) (by kernel_rfl) (by kernel_rfl)
theorem def_worths : DefAt (GLf P) (hB P) "_law_worths" 42 ["c"] := ⟨175, by kernel_rfl, isdef_worths⟩
theorem isdef_seen : IsDef (hB P) 182 (stAt 43) ["signs", "c"] := isdef_at (c := 181) (ob182_0 P) (ob181_0 P) (binds2 fun a b => by kernel_rfl) (by kernel_rfl) (by kernel_rfl) (by kernel_rfl) (by kernel_rfl) (by kernel_rfl) (by kernel_rfl) (by decide) (by decide) (by kernel_rfl) (by kernel_rfl) (by kernel_rfl) (by kernel_rfl) (by kernel_rfl)
theorem def_seen : DefAt (GLf P) (hB P) "_law_seen" 43 ["signs", "c"] := ⟨182, by kernel_rfl, isdef_seen⟩
theorem isdef_step : IsDef (hB P) 187 (stAt 44) ["mode", "clause"] := isdef_at (c := 186) (ob187_0 P) (ob186_0 P) (binds2 fun a b => by kernel_rfl) (by kernel_rfl) (by kernel_rfl) (by kernel_rfl) (by kernel_rfl) (by kernel_rfl) (by kernel_rfl) (by decide) (by decide) (by kernel_rfl) (by kernel_rfl) (by kernel_rfl) (by kernel_rfl) (by kernel_rfl)
theorem def_step : DefAt (GLf P) (hB P) "_law_step" 44 ["mode", "clause"] := ⟨187, by kernel_rfl, isdef_step⟩
theorem isdef_traced : IsDef (hB P) 192 (stAt 45) ["done", "first", "c", "k"] := isdef_at (c := 191) (ob192_0 P) (ob191_0 P) (binds4 fun a b c d => by kernel_rfl) (by kernel_rfl) (by kernel_rfl) (by kernel_rfl) (by kernel_rfl) (by kernel_rfl) (by kernel_rfl) (by decide) (by decide) (by kernel_rfl) (by kernel_rfl) (by kernel_rfl) (by kernel_rfl) (by kernel_rfl)
theorem def_traced : DefAt (GLf P) (hB P) "_law_traced" 45 ["done", "first", "c", "k"] := ⟨192, by kernel_rfl, isdef_traced⟩
theorem isdef_due : IsDef (hB P) 197 (stAt 46) ["done", "first"] := isdef_at (c := 196) (ob197_0 P) (ob196_0 P) (binds2 fun a b => by kernel_rfl) (by kernel_rfl) (by kernel_rfl) (by kernel_rfl) (by kernel_rfl) (by kernel_rfl) (by kernel_rfl) (by decide) (by decide) (by kernel_rfl) (by kernel_rfl) (by kernel_rfl) (by kernel_rfl) (by kernel_rfl)
theorem def_due : DefAt (GLf P) (hB P) "_law_due" 46 ["done", "first"] := ⟨197, by kernel_rfl, isdef_due⟩
theorem isdef_spot : IsDef (hB P) 204 (stAt 47) ["line", "column"] := isdef_at (c := 203) (ob204_0 P) (ob203_0 P) (binds2 fun a b => by kernel_rfl) (by kernel_rfl) (by kernel_rfl) (by kernel_rfl) (by kernel_rfl) (by kernel_rfl) (by kernel_rfl) (by decide) (by decide) (by kernel_rfl) (by kernel_rfl) (by kernel_rfl) (by kernel_rfl) (by kernel_rfl)
theorem def_spot : DefAt (GLf P) (hB P) "_law_spot" 47 ["line", "column"] := ⟨204, by kernel_rfl, isdef_spot⟩
theorem isdef_fault : IsDef (hB P) 211 (stAt 48) ["clauses"] := isdef_at (c := 210) (ob211_0 P) (ob210_0 P) (binds1 fun a => by kernel_rfl) (by kernel_rfl) (by kernel_rfl) (by kernel_rfl) (by kernel_rfl) (by kernel_rfl) (by kernel_rfl) (by decide) (by decide) (by kernel_rfl) (by kernel_rfl) (by kernel_rfl) (by kernel_rfl) (by kernel_rfl)
theorem def_fault : DefAt (GLf P) (hB P) "_law_fault" 48 ["clauses"] := ⟨211, by kernel_rfl, isdef_fault⟩
theorem isdef_skipc : IsDef (hB P) 65 (stAt 7) ["src", "pos", "chars"] := isdef_at (c := 64) (ob65_0 P) (ob64_0 P) (binds3 fun a b c => by kernel_rfl) (by kernel_rfl) (by kernel_rfl) (by kernel_rfl) (by kernel_rfl) (by kernel_rfl) (by kernel_rfl) (by decide) (by decide) (by kernel_rfl) (by kernel_rfl) (by kernel_rfl) (by kernel_rfl) (by kernel_rfl)
theorem def_skipc : DefAt (GLf P) (hB P) "skip_chars" 7 ["src", "pos", "chars"] := ⟨65, by kernel_rfl, isdef_skipc⟩
theorem isdef_comment : IsDef (hB P) 79 (stAt 9) ["src", "pos"] := isdef_at (c := 78) (ob79_0 P) (ob78_0 P) (binds2 fun a b => by kernel_rfl) (by kernel_rfl) (by kernel_rfl) (by kernel_rfl) (by kernel_rfl) (by kernel_rfl) (by kernel_rfl) (by decide) (by decide) (by kernel_rfl) (by kernel_rfl) (by kernel_rfl) (by kernel_rfl) (by kernel_rfl)
theorem def_comment : DefAt (GLf P) (hB P) "skip_comment" 9 ["src", "pos"] := ⟨79, by kernel_rfl, isdef_comment⟩
theorem isdef_ws : IsDef (hB P) 86 (stAt 10) ["src", "pos"] := isdef_at (c := 85) (ob86_0 P) (ob85_0 P) (binds2 fun a b => by kernel_rfl) (by kernel_rfl) (by kernel_rfl) (by kernel_rfl) (by kernel_rfl) (by kernel_rfl) (by kernel_rfl) (by decide) (by decide) (by kernel_rfl) (by kernel_rfl) (by kernel_rfl) (by kernel_rfl) (by kernel_rfl)
theorem def_ws : DefAt (GLf P) (hB P) "skip_comments_and_array_ws" 10 ["src", "pos"] := ⟨86, by kernel_rfl, isdef_ws⟩
theorem isdef_read : IsDef (hB P) 168 (stAt 41) ["document"] := isdef_at (c := 167) (ob168_0 P) (ob167_0 P) (binds1 fun a => by kernel_rfl) (by kernel_rfl) (by kernel_rfl) (by kernel_rfl) (by kernel_rfl) (by kernel_rfl) (by kernel_rfl) (by decide) (by decide) (by kernel_rfl) (by kernel_rfl) (by kernel_rfl) (by kernel_rfl) (by kernel_rfl)
theorem def_read : DefAt (GLf P) (hB P) "_law_read" 41 ["document"] := ⟨168, by kernel_rfl, isdef_read⟩
theorem isdef_law : IsDef (hB P) 216 (stAt 49) ["script"] := isdef_at (c := 215) (ob216_0 P) (ob215_0 P) (binds1 fun a => by kernel_rfl) (by kernel_rfl) (by kernel_rfl) (by kernel_rfl) (by kernel_rfl) (by kernel_rfl) (by kernel_rfl) (by decide) (by decide) (by kernel_rfl) (by kernel_rfl) (by kernel_rfl) (by kernel_rfl) (by kernel_rfl)
theorem isdef_reduce : IsDef (hB P) 102 (stAt 14) ["function", "sequence", "initial"] := ⟨fdOf (ob102_0 P), fn_at (c := 101) (ob102_0 P) (ob101_0 P) (by kernel_rfl) (by kernel_rfl) (by kernel_rfl) (by kernel_rfl) (by kernel_rfl) (by kernel_rfl) (by decide) (by decide) (by kernel_rfl) (by kernel_rfl) (by kernel_rfl) (by kernel_rfl), by kernel_rfl, fun s xs st hx => by
  match xs, hx with
  | [a, b, c], _ => exact BindsTo.of_defaults (T := 95) (o := ob95_0 P) rfl (st _ _ (hide_get (by kernel_rfl) (by decide))) rfl rfl rfl⟩
theorem def_reduce : DefAt (GLf P) (hB P) "reduce" 14 ["function", "sequence", "initial"] := ⟨102, by kernel_rfl, isdef_reduce⟩
theorem til_binds (s : Shared) (xs ys : List Value) (hx : xs.length = 3) (hy : ys.length = 2) : BindsTo s (fdOf (ob72_0 P)) ⟨xs, (["error_on", "error_on_eof"] : List Str).zip ys⟩ (((["src", "pos", "expect"] : List Str) ++ (["error_on", "error_on_eof"] : List Str)).zip (xs ++ ys)) := by
  match xs, hx, ys, hy with
  | [a, b, c], _, [d, e], _ => exact BindsTo.of_eq (by kernel_rfl)
theorem def_til : KwAt (GLf P) (hB P) "skip_until" 8 ["src", "pos", "expect"] ["error_on", "error_on_eof"] := ⟨72, fdOf (ob72_0 P), by kernel_rfl, fn_at (c := 71) (ob72_0 P) (ob71_0 P) (by kernel_rfl) (by kernel_rfl) (by kernel_rfl) (by kernel_rfl) (by kernel_rfl) (by kernel_rfl) (by decide) (by decide) (by kernel_rfl) (by kernel_rfl) (by kernel_rfl) (by kernel_rfl), by kernel_rfl, fun s xs ys _ hx hy => til_binds s xs ys hx hy⟩
theorem fn_sfx : Fn (hB P) 93 (fdOf (ob93_0 P)) (bodyOf (stAt 11)) := fn_at (c := 92) (ob93_0 P) (ob92_0 P) (by kernel_rfl) (by kernel_rfl) (by kernel_rfl) (by kernel_rfl) (by kernel_rfl) (by kernel_rfl) (by decide) (by decide) (by kernel_rfl) (by kernel_rfl) (by kernel_rfl) (by kernel_rfl)
end
end
end Mine
end
section
open PySem PySem.W PyProof.Rows PySem.Calls PySem.SeqAt
set_option maxRecDepth 100000
set_option maxHeartbeats 4000000
namespace Mine
noncomputable section
mutual
noncomputable def chk (h : Heap) : PV → Value → Bool
  | .int i, .int j _ => decide (i = j)
  | .str x, .str y _ => x == y
  | .tup l, .ref a => match h.get? a with
    | some o => (match o.cls with | .type s => s == "tuple" | _ => false) && (match o.data with | .seq items _ => chkL h l items.toList | _ => false)
    | none => false
  | _, _ => false
noncomputable def chkL (h : Heap) : List PV → List Value → Bool
  | [], [] => true
  | p :: r, v :: vs => chk h p v && chkL h r vs
  | _, _ => false
end
mutual
theorem chk_rep {h : Heap} : ∀ {p : PV} {v : Value}, chk h p v = true → Rep h.get? p v
  | .int i, v, e => by
    cases v <;> simp only [chk, Bool.false_eq_true, decide_eq_true_eq] at e
    subst e; simp only [Rep]; exact ⟨_, rfl⟩
  | .str x, v, e => by
    cases v <;> simp only [chk, Bool.false_eq_true, beq_iff_eq] at e
    subst e; simp only [Rep]; exact ⟨_, rfl⟩
  | .tup l, v, e => by
    cases v <;> simp only [chk, Bool.false_eq_true] at e
    rename_i a
    cases ho : h.get? a with
    | none => rw [ho] at e; cases e
    | some o =>
      rw [ho] at e
      dsimp only at e
      obtain ⟨e1, e2⟩ := Bool.and_eq_true_iff.mp e
      have hc : o.cls = .type "tuple" := by
        cases hc : o.cls <;> rw [hc] at e1 <;> first | (cases e1; done) | skip
        rw [eq_of_beq e1]
      cases hd : o.data <;> rw [hd] at e2 <;> first | (cases e2; done) | skip
      simp only [Rep]
      exact ⟨a, o, _, _, rfl, ho, hc, hd, chkL_rep e2⟩
  | .none, v, e => by simp [chk] at e
  | .bool _, v, e => by simp [chk] at e
  | .ref _, v, e => by simp [chk] at e
  | .rng _, v, e => by simp [chk] at e
  | .list _, v, e => by simp [chk] at e
theorem chkL_rep {h : Heap} : ∀ {l : List PV} {vs : List Value}, chkL h l vs = true → RepL h.get? l vs
  | [], [], _ => by simp only [RepL]
  | p :: r, [], e => by simp [chkL] at e
  | [], v :: vs, e => by simp [chkL] at e
  | p :: r, v :: vs, e => by
    simp only [chkL, Bool.and_eq_true] at e
    simp only [RepL]
    exact ⟨v, vs, rfl, chk_rep e.1, chkL_rep e.2⟩
end
section
variable {P : Params}
theorem tableF : ∃ v, GLf P "_filemode_table" = some v ∧ Rep (hB P).get? tablePV v := by
  refine ⟨.ref 142, by kernel_rfl, ?_⟩
  have r : Rep (hpFin P).get? tablePV (.ref 142) := chk_rep (by kernel_rfl)
  have h88 : (hpFin P).get? 88 = some (ob88_0 P) := by kernel_rfl
  have m := Rep.minus (X := 88) (fun o e => by rw [h88] at e; cases e; rfl) r
  exact m.mono fun b o e => by
    obtain ⟨h1, h2⟩ := minus_some e
    exact hide_get h2 h1
theorem ns54 : (hpFin P).Ns 54 ((hpFin P).nsMap 54) := .of_isNs (by kernel_rfl)
theorem errF : ErrCls (hB P) 55 :=
  ⟨⟨"TOMLDecodeError", "TOMLDecodeError", 54, [.type "ValueError"], true, [], [], false, Option.none, Option.none, some (.ref 46), Option.none, some (.str "TOMLDecodeError" 348), some (.str "TOMLDecodeError" 356), some (.bool true), (hpFin P).nsMap 54,
    hide_get (by kernel_rfl) (by decide), ns_hide ns54 (by decide), by kernel_rfl, by kernel_rfl⟩⟩
theorem get_set {h : Heap} {a : Addr} {es : Array (Int × Value)} {ep : Nat} {t : SetTable} (e : h.objs[a]? = some (fo (.set es ep t))) : h.get? a = some (fo (.set es ep t)) := by
  unfold Heap.get?
  rw [e]; rfl
theorem nodup_of_map {α β : Type} (f : α → β) {l : List α} (h : (l.map f).Nodup) : l.Nodup := List.Pairwise.imp (fun h e => h (congrArg f e)) (List.pairwise_map.mp h)
theorem fs_isFS {h : Heap} {a : Addr} {es : Array (Int × Value)} {ep : Nat} {t : SetTable} {d : Data} {S : Nat → Bool} (e : h.objs[a]? = some (fo d)) (hd : d = .set es ep t) (hf : t.fits es.size = true) (hs : es.size < scanBound) (h1 : ∀ e ∈ es.toList, ∃ c j, e.2 = Value.str ⟨#[c]⟩ j)
    (h2 : ∀ c, S c = true ↔ ∃ e ∈ es.toList, ∃ j, e.2 = Value.str ⟨#[c]⟩ j) : FS h a S := by
  subst hd
  exact ⟨_, es, ep, t, get_set e, rfl, rfl, rfl, hf, hs, h1, h2⟩
theorem FS.hide {h : Heap} {a X : Addr} {S : Nat → Bool} (x : FS h a S) (hne : a ≠ X) : FS (h.hide X) a S := let ⟨o, es, ep, t, e, r⟩ := x; ⟨o, es, ep, t, hide_get e hne, r⟩
theorem sign_eq {c d : Nat} {j k : Tok} : Value.str ⟨#[c]⟩ j = Value.str ⟨#[d]⟩ k ↔ c = d ∧ j = k := by
  constructor
  · intro h; injection h with h1 h2; injection h1 with h1; exact ⟨by simpa using h1, h2⟩
  · rintro ⟨rfl, rfl⟩; rfl
theorem fs45 : FS (hpFin P) 45 isWs := by
  obtain ⟨x, e, k, p⟩ := (sd45 P).sv
  refine fs_isFS (d := d45 P) (by kernel_rfl) e (k.fits (by show 3 < 40; decide)) (by rw [k.size]; show 3 < scanBound; decide) (fun e he => ?_) fun c => ?_
  · have := p.mem_iff.mp he
    simp only [l45, l37, List.cons_append, List.nil_append, List.mem_cons, List.not_mem_nil, or_false] at this
    rcases this with rfl | rfl | rfl <;> exact ⟨_, _, rfl⟩
  · constructor
    · intro h
      simp only [isWs, Bool.or_eq_true, beq_iff_eq] at h
      rcases h with (rfl | rfl) | rfl
      · exact ⟨(kh P 32, .str ⟨#[32]⟩ 339), p.mem_iff.mpr (by simp [l45, l37]), _, rfl⟩
      · exact ⟨(kh P 9, .str ⟨#[9]⟩ 341), p.mem_iff.mpr (by simp [l45, l37]), _, rfl⟩
      · exact ⟨(kh P 10, .str ⟨#[10]⟩ 345), p.mem_iff.mpr (by simp [l45, l37]), _, rfl⟩
    · rintro ⟨e, he, j, q⟩
      have := p.mem_iff.mp he
      simp only [l45, l37, List.cons_append, List.nil_append, List.mem_cons, List.not_mem_nil, or_false] at this
      rcases this with rfl | rfl | rfl <;> (obtain ⟨rfl, _⟩ := sign_eq.mp q; rfl)
noncomputable def tokOf : Value → Nat
  | .str _ t => t
  | _ => 0
theorem l31_nodup : (l31 P).Nodup := by
  have h : ((l31 P).map fun e => tokOf e.2).Nodup := by
    have e : (l31 P).map (fun e => tokOf e.2) = (List.range 32).map (fun i => 202 + 4 * i) ++ [330] := by kernel_rfl
    rw [e]; decide +kernel
  exact nodup_of_map _ h
theorem fs36 : FS (hpFin P) 36 isIll := by
  obtain ⟨x, x31, i, e31, e36, e36', k31, p31, h1, h2, h3, h4, h5⟩ := d36_sv P
  have L := leaves_of (L := l31 P) (P := P) (by rw [l31_len]; exact k31) p31 (l31_len _) (fun e he => by obtain ⟨c, j, rfl, _⟩ := l31_mem _ e he; exact ⟨_, _, rfl⟩) h1 h2 h3
  have hz : x.es.size = 32 := by rw [h4, erase_size h2, k31.size]
  have hsplit : x31.es.toList = x31.es.toList.take i ++ (kh P 9, Value.str ⟨#[9]⟩ 238) :: x31.es.toList.drop (i + 1) := by
    have h2' : i < x31.es.toList.length := by simpa using h2
    have : x31.es.toList[i] = (kh P 9, Value.str ⟨#[9]⟩ 238) := by
      have := h3
      rw [Array.getElem?_eq_getElem h2] at this
      simpa using Option.some.inj this
    rw [← this, ← List.drop_eq_getElem_cons h2', List.take_append_drop]
  have hnd : x31.es.toList.Nodup := p31.nodup_iff.mpr l31_nodup
  have hx : x.es.toList = x31.es.toList.take i ++ x31.es.toList.drop (i + 1) := by rw [h4]; exact erase_list
  have hmem : ∀ e, e ∈ x.es.toList ↔ e ∈ l31 P ∧ e ≠ (kh P 9, Value.str ⟨#[9]⟩ 238) := fun e => by
    rw [hsplit] at hnd
    have hn := List.perm_middle.nodup_iff.mp hnd
    rw [List.nodup_cons] at hn
    rw [← p31.mem_iff, hx]
    constructor
    · intro h
      refine ⟨?_, fun z => hn.1 (z ▸ h)⟩
      rw [hsplit]
      rcases List.mem_append.mp h with h | h
      · exact List.mem_append.mpr (.inl h)
      · exact List.mem_append.mpr (.inr (List.mem_cons_of_mem _ h))
    · rintro ⟨h, hne⟩
      rw [hsplit] at h
      rcases List.mem_append.mp h with h | h
      · exact List.mem_append.mpr (.inl h)
      · rcases List.mem_cons.mp h with h | h
        · exact absurd h hne
        · exact List.mem_append.mpr (.inr h)
  have hfit : x.t.fits x.es.size = true := by
    rw [h4, h5]; exact L.fits'
  refine fs_isFS (d := d36 P) (by kernel_rfl) e36 hfit (by rw [hz]; decide) (fun e he => ?_) fun c => ?_
  · obtain ⟨c, j, rfl, _⟩ := l31_mem _ e ((hmem e).mp he).1
    exact ⟨_, _, rfl⟩
  · constructor
    · intro h
      simp only [isIll, Bool.or_eq_true, Bool.and_eq_true, decide_eq_true_eq, bne_iff_ne, beq_iff_eq] at h
      rcases h with ⟨h, hne⟩ | rfl
      · refine ⟨(kh P c, .str ⟨#[c]⟩ (202 + 4 * c)), (hmem _).mpr ⟨?_, fun z => ?_⟩, _, rfl⟩
        · rw [l31]; exact List.mem_append.mpr (.inl (l22_has P c 32 h))
        · exact hne (sign_eq.mp (congrArg Prod.snd z)).1
      · refine ⟨(kh P 127, .str ⟨#[127]⟩ 330), (hmem _).mpr ⟨?_, fun z => ?_⟩, _, rfl⟩
        · rw [l31]; exact List.mem_append.mpr (.inr (List.mem_singleton.mpr rfl))
        · have := (sign_eq.mp (congrArg Prod.snd z)).1; omega
    · rintro ⟨e, he, j, q⟩
      obtain ⟨hm, hne⟩ := (hmem e).mp he
      obtain ⟨d, k, rfl, hc⟩ := l31_mem _ e hm
      obtain ⟨rfl, _⟩ := sign_eq.mp q
      simp only [isIll, Bool.or_eq_true, Bool.and_eq_true, decide_eq_true_eq, bne_iff_ne, beq_iff_eq]
      rcases hc with ⟨hc, rfl⟩ | ⟨rfl, _⟩
      · exact .inl ⟨hc, fun z => hne (by subst z; rfl)⟩
      · exact .inr rfl
end
end
end Mine
end
section
open PySem PySem.W PyProof.Rows PySem.Calls PySem.SeqAt
set_option maxRecDepth 100000
set_option maxHeartbeats 4000000
namespace Mine
noncomputable section
section
variable {P : Params}
theorem topsF : Tops (GLf P) (hB P) where
  W := wdF
  len := by kernel_rfl
  sum := by kernel_rfl
  range := by kernel_rfl
  str := by kernel_rfl
  enumerate := by kernel_rfl
  table := tableF
  ifmt := def_ifmt
  filemode := def_filemode
  clause := def_clause
  written := def_written
  worths := def_worths
  seen := def_seen
  step := def_step
  traced := def_traced
  due := def_due
  spot := def_spot
  fault := def_fault
theorem tab88 : (hpFin P).TableAt 92 88 #[] := ⟨⟨ob92_0 P, _, by kernel_rfl, rfl, rfl, rfl⟩, by kernel_rfl⟩
theorem code88 : (hpFin P).IsCode 92 88 #[] := ⟨ob92_0 P, _, _, _, _, _, _, _, _, ob88_0 P, by kernel_rfl, rfl, rfl, rfl, rfl, rfl, rfl, by kernel_rfl, rfl, trivial, by decide⟩
theorem sfxF : SfxAt (GLf P) (hpFin P) 88 where
  f := ⟨93, fdOf (ob93_0 P), 92, _, by kernel_rfl, (fn_sfx (P := P)).mono hideSub, by kernel_rfl, fun s xs _ hx => binds3 (fun a b c => by kernel_rfl) s xs hx, by kernel_rfl, ⟨code88, tab88⟩, nsG, ⟨4, boot_o_4 P, by kernel_rfl, by decide, by decide, by decide, by kernel_rfl, rfl, rfl, rfl⟩, by decide⟩
  tab := ⟨ob88_0 P, by kernel_rfl, rfl⟩
theorem topRF : TopR (GLf P) (hpFin P) 88 55 where
  T := topsF
  idx := by kernel_rfl
  skipc := def_skipc
  til := def_til
  comment := def_comment
  ws := def_ws
  read := def_read
  reduce := def_reduce
  sfx := sfxF
  err := by kernel_rfl
  cls := errF
  ill := ⟨36, by kernel_rfl, fs36.hide (by decide)⟩
  wsnl := ⟨45, by kernel_rfl, fs45.hide (by decide)⟩
theorem topDF : TopD (GLf P) (hB P) := ⟨def_reduce, by kernel_rfl, ⟨94, by kernel_rfl⟩⟩
theorem TopD.mono {GL : Str → Option Value} {base base' : Heap} (D : TopD GL base) (hb : base.StaysIn base') : TopD GL base' := ⟨D.reduce.mono hb, D.iter, D.miss⟩
theorem IsDef.mono {base base' : Heap} {f : Addr} {st : Stmt} {names : List Str} (D : IsDef base f st names) (hb : base.StaysIn base') : IsDef base' f st names :=
  let ⟨fd, F, h2, h3⟩ := D; ⟨fd, F.mono hb, h2, fun s xs st => h3 s xs fun b o e => st b o (hb b o e)⟩
end
theorem law_args {args : List WData} (h : rowL.claim.pre args = true) : ∃ ns : List Int, args = [.list (ns.map .int)] ∧ ns.length ≤ 63 := by
  obtain ⟨h1, h2⟩ := pre_splitW h
  obtain ⟨d, r, rfl, hd, hr⟩ := hasAllW_cons (show WShape.hasAll rowL.records args [.list .int] = true from h1)
  obtain rfl := hasAllW_nil hr
  obtain ⟨xs, rfl, hx⟩ := hasW_list hd
  obtain ⟨ns, rfl⟩ := items_int hx
  refine ⟨ns, rfl, ?_⟩
  have e : rowL.pre = .and (.not (.lt (.lit (.int 63)) (.len (.arg 0)))) (.lit (.bool true)) := rfl
  rw [e] at h2
  by_cases hl : ns.length ≤ 63
  · exact hl
  · exfalso
    have : decide ((63 : Int) < (ns.length : Int)) = true := by simp; omega
    revert h2
    simp [WTm.holds, WTm.value, less?]
    have e2 : Num.less? (WData.int 63) (WData.int (ns.length : Int)) = some true := by show some (decide ((63 : Int) < (ns.length : Int))) = _; rw [this]
    rw [e2]
    rfl
theorem ints_rep {cl : Str → Option Addr} {h : Heap} : ∀ {ns : List Int} {vs : List Value} {as : List Addr}, ReadsAllW rowL.records cl h vs (ns.map .int) as → RepL h.get? (ns.map .int) vs
  | [], _, _, r => by cases r; simp only [List.map_nil, RepL]
  | n :: ns, _, _, r => by
    cases r with
    | cons r1 r2 =>
      cases r1
      simp only [List.map_cons, RepL]
      exact ⟨_, _, rfl, by simp only [Rep]; exact ⟨_, rfl⟩, ints_rep r2⟩
theorem vals_rep {cl : Str → Option Addr} {h : Heap} {ns : List Int} {vals : List Value} {as : List Addr} (r : ReadsAllW rowL.records cl h vals [.list (ns.map .int)] as) : RepL h.get? [.list (ns.map .int)] vals := by
  cases r with
  | cons r1 r2 =>
    cases r2
    obtain ⟨l, o, its, k, ai, rfl, ho, hc, hd, ra, _⟩ := readsW_list_open r1
    refine RepL.one ?_
    simp only [Rep]
    exact ⟨l, o, k, its, rfl, ho, hc, hd, ints_rep ra⟩
theorem ns_unique {h : Heap} {a : Addr} {m m' : Str → Option Value} (x : h.Ns a m) (y : h.Ns a m') : m = m' := by
  obtain ⟨o, es, ep, e1, e2, e3, e4⟩ := x
  obtain ⟨o', es', ep', f1, f2, f3, f4⟩ := y
  rw [e1] at f1; cases f1
  rw [e2] at f2; cases f2
  exact funext fun n => (e4 n).symm.trans (f4 n)
theorem good_true {cl : Str → Option Addr} {mean : ExcName → Option Value} {ns : List Int} {s₁ s' : Shared} (hK : OldK s₁.heap s'.heap) (hos : s'.os = s₁.os) (hg : s'.gens = #[]) :
    GoodWE rowL.claim cl mean [.list (ns.map .int)] s₁ (.ok (.ret (.bool true))) s' :=
  ⟨.inl ⟨.bool true, .bool true, [], rfl, fun _ => rfl, .bool true, by kernel_rfl, fun _ => ⟨List.nodup_nil, fun a h => nomatch h⟩⟩, hK, hos, hg⟩
theorem walkE : WalkE := by
  intro w s₀ s₁ mg mb G Y a o pm cd doc dV kV ho hd hcd hD hmg hg args vals as hpre hlay hrd
  obtain ⟨ns, rfl, hn⟩ := law_args hpre
  have rv := vals_rep hrd
  have eg : mg = (hpFin w.params).nsMap mainGlobals := ns_unique G.T.g (nsG.keeps Y)
  have ha : a = 216 := by
    have h1 : (hpFin w.params).nsMap mainGlobals lawD.name = some (.ref 216) := by kernel_rfl
    rw [eg, h1] at hmg
    cases hmg; rfl
  subst ha
  obtain ⟨b, h0, hR, hP⟩ := plain_law ns
  have ok : Ok (hpFin w.params) 7 callerA s₁.heap.get? s₁.heap := ⟨fun _ _ e => e, Y, rfl, by decide, by decide, [], rfl, trivial, fun env he => nomatch he⟩
  show wpAny (MD w) callerA _ _ _ _
  have L := (isdef_law (P := w.params)).mono hideSub
  cases b with
  | false =>
    refine c_law_ok (w := w) (n := 0) topRF (topDF.mono hideSub) L (by omega) h0 hR hP callerA _ s₁ vals ok rv _ _ fun pv h' tk g' st rp => ?_
    simp only [Rep] at rp
    subst rp
    exact good_true (OldK.of_keep fun b o e => st.sub b o (st.grow b o e)) rfl hg
  | true =>
    refine c_law_x (w := w) (n := 0) topRF topDF L (by omega) h0 hR hP callerA _ s₁ vals ok rv _ _ fun pv h' tk g' st hp rp => ?_
    simp only [Rep] at rp
    subst rp
    obtain ⟨ps, hps⟩ := hp
    have h88 : s₁.heap.get? 88 = some (ob88_0 w.params) := Y _ _ (by kernel_rfl)
    have keep : ∀ b o, b ≠ 88 → s₁.heap.get? b = some o → h'.get? b = some o := fun b o hb e => st.sub b o (st.grow b o ((if_neg hb).trans e))
    refine good_true ⟨fun b o e => ?_, fun b o e => ?_⟩ rfl hg
    · by_cases hb : b = 88
      · subst hb
        rw [h88] at e
        cases e
        exact .inr (.inl ⟨(tab88.keeps Y).isCodeTable, rfl, #[], ps, rfl, by
          have := st.sub _ _ hps
          rw [this]
          simp [ob88_0]⟩)
      · exact .inl (keep b o hb e)
    · by_cases hb : b = 88
      · subst hb; exact ⟨_, st.sub _ _ hps⟩
      · exact ⟨o, keep b o hb e⟩
end
end Mine
end
open PySem PySem.W PyProof.Rows PySem.Calls PySem.SeqAt
set_option maxRecDepth 100000
set_option maxHeartbeats 4000000
namespace Mine
theorem promisedF : rowL.promised := ⟨[.list []], by decide +kernel, by decide +kernel⟩
end Mine
theorem PySem.Challenge.cw_oy0153_01_holds : PySem.Challenge.rw_oy0153_01.Holds :=
  Mine.headE Mine.promisedF Mine.walkE
