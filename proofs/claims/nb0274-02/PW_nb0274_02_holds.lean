import PyProof.Rows.All
import Wide.All
import OpenK.AllK
import Wide.FinOn
import PySem.Challenge.RW_nb0274_02
set_option Elab.async false
noncomputable section
open PySem PySem.W PyProof.Rows
set_option Elab.async false
namespace Mine

/-- a big-step evaluator of trees over the heap as a tree of objects -/
def bsT (prog : Program) (P : Params) (code : Ctx → Pos → SharedT → Option (Result × SharedT)) {α : Type} : Sem α → Ctx → Pos → SharedT → Option (Except Value α × Pos × SharedT)
  | .pure a, _, p, s => some (.ok a, p, s)
  | .raise e, _, p, s => some (.error e, p, s)
  | .rule _ k, Γ, p, s => bsT prog P code (k ()) Γ p s
  | .at p' k, Γ, _, s => bsT prog P code (k ()) Γ p' s
  | .load a _ k, Γ, p, ⟨T, n, life, gens, drawn, toks, os⟩ => match Nat.blt a n with
      | true => match T.get a with
        | some o => match alive o with
          | some o' => bsT prog P code (k o') Γ p ⟨T, n, life, gens, drawn, toks, os⟩
          | none => none
        | none => none
      | false => none
  | .update a _ f k, Γ, p, ⟨T, n, life, gens, drawn, toks, os⟩ => match Nat.blt a n with
      | true => match T.get a with
        | some o => match alive o with
          | some _ => bsT prog P code (k ()) Γ p ⟨T.set a f, n, life, gens, drawn, toks, os⟩
          | none => none
        | none => none
      | false => none
  | .alloc o k, Γ, p, ⟨T, n, life, gens, drawn, toks, os⟩ => match ((T.ins n o).get n).isSome with
      | true => bsT prog P code (k n) Γ p ⟨T.ins n o, n + 1, life, gens, drawn, toks, os⟩
      | false => none
  | .loadIfAlive a k, Γ, p, ⟨T, n, life, gens, drawn, toks, os⟩ => match Nat.blt a n with
      | true => match T.get a with
        | some o => bsT prog P code (k (alive o)) Γ p ⟨T, n, life, gens, drawn, toks, os⟩
        | none => none
      | false => bsT prog P code (k none) Γ p ⟨T, n, life, gens, drawn, toks, os⟩
  | .point _ k, Γ, p, s => bsT prog P code (k ()) Γ p s
  | .fresh k, Γ, p, ⟨T, n, life, gens, drawn, toks, os⟩ => bsT prog P code (k toks) Γ p ⟨T, n, life, gens, drawn, toks + 1, os⟩
  | .ask k, Γ, p, s => bsT prog P code (k ⟨prog, P⟩) Γ p s
  | .call c h _ _ k, Γ, p, s => match code (Γ.enter c h p) p s with
      | some (r, s') => bsT prog P code (k r) Γ p s'
      | none => none
  | .handled own k, Γ, p, s => bsT prog P code (k (if own then Γ.own else Γ.handled)) Γ p s
  | .stack k, Γ, p, s => bsT prog P code (k ((Γ.code, p) :: Γ.below)) Γ p s
  | .thread k, Γ, p, s => bsT prog P code (k 0) Γ p s
  | _, _, _, _ => none

/-- the library's quick twins of the denotation and of the blocks -/
noncomputable abbrev denQ : Code → Sem Fin := PySem.W.Fast.tw11892475500146522536 PySem.W.Fast.tw14364793385576792824
theorem denQ_eq : denote treeTable = denQ := by rw [PySem.W.Fast.te11892475500146522536, PySem.W.Fast.te14364793385576792824]
noncomputable abbrev execsQ : List Stmt → Env → Sem Flow := PySem.W.Fast.tw12563942051412417395
theorem execsQ_eq : execs = execsQ := PySem.W.Fast.te12563942051412417395

noncomputable def bsC (prog : Program) (P : Params) : Nat → Ctx → Pos → SharedT → Option (Result × SharedT)
  | 0, _, _, _ => none
  | n + 1, Γ, p, s => match bsT prog P (bsC prog P n) (denQ Γ.code) Γ p s with
    | some (.ok (.done f), _, s') => some (.ok f, s')
    | some (.ok (.again c), p', s') => match c.quiet with
      | true => bsC prog P n (Γ.goto c) p' s'
      | false => none
    | some (.error e, _, s') => some (.error e, s')
    | none => none

noncomputable def bs (prog : Program) (P : Params) (n : Nat) {α : Type} (t : Sem α) (Γ : Ctx) (p : Pos) (s : SharedT) : Option (Except Value α × Pos × SharedT) := bsT prog P (bsC prog P n) t Γ p s

theorem none_ne {α : Type} {a : α} (h : none = some a) : False := by cases h
theorem blt_true {a n : Nat} (h : Nat.blt a n = true) : a < n := Nat.le_of_ble_eq_true h
theorem blt_false {a n : Nat} (h : Nat.blt a n = false) : ¬ a < n := fun q => by
  have : Nat.blt a n = true := Nat.ble_eq_true_of_le q
  rw [this] at h; cases h

section
variable {prog : Program} {w : World}

theorem bsT_sound {code : Ctx → Pos → SharedT → Option (Result × SharedT)} (hc : ∀ Γ p s r s', code Γ p s = some (r, s') → wpCode (model prog w) Γ (fun r' x => r' = r ∧ x = s'.abs) p s.abs) {α : Type} :
    ∀ (t : Sem α) (Γ : Ctx) (p : Pos) (s : SharedT) (r : Except Value α) (p' : Pos) (s' : SharedT), bsT prog w.params code t Γ p s = some (r, p', s') →
      Sem.wp (model prog w) Γ t (fun a q x => r = .ok a ∧ q = p' ∧ x = s'.abs) (fun e q x => r = .error e ∧ q = p' ∧ x = s'.abs) p s.abs := by
  intro t
  induction t with
  | pure a => intro Γ p s r p' s' h; cases h; exact ⟨rfl, rfl, rfl⟩
  | raise e => intro Γ p s r p' s' h; cases h; exact ⟨rfl, rfl, rfl⟩
  | rule _ k ih => intro Γ p s r p' s' h; exact ih () Γ p s r p' s' h
  | «at» q k ih => intro Γ p s r p' s' h; exact ih () Γ q s r p' s' h
  | point _ k ih => intro Γ p s r p' s' h; exact ih () Γ p s r p' s' h
  | ask k ih => intro Γ p s r p' s' h; exact ih _ Γ p s r p' s' h
  | handled _ k ih => intro Γ p s r p' s' h; exact ih _ Γ p s r p' s' h
  | stack k ih => intro Γ p s r p' s' h; exact ih _ Γ p s r p' s' h
  | thread k ih => intro Γ p s r p' s' h; exact ih _ Γ p s r p' s' h
  | fresh k ih =>
    intro Γ p s r p' s' h
    obtain ⟨T, n, life, gens, drawn, toks, os⟩ := s
    exact ih _ Γ p _ r p' s' h
  | load a y k ih =>
    intro Γ p s r p' s' h
    obtain ⟨T, n, life, gens, drawn, toks, os⟩ := s
    have q : bsT prog w.params code (.load a y k) Γ p ⟨T, n, life, gens, drawn, toks, os⟩ = (match Nat.blt a n with | true => (match T.get a with | some o => (match alive o with | some o' => bsT prog w.params code (k o') Γ p ⟨T, n, life, gens, drawn, toks, os⟩ | none => none) | none => none) | false => none) := by kernel_rfl
    rw [q] at h
    cases e1 : Nat.blt a n with
    | false => rw [e1] at h; cases h
    | true =>
      cases e2 : T.get a with
      | none => rw [e1, e2] at h; cases h
      | some o =>
        cases e3 : alive o with
        | none => simp only [e1, e2, e3] at h; cases h
        | some o' =>
          simp only [e1, e2, e3] at h
          exact ⟨o', (abs_get (life := life) (blt_true e1) e2).trans e3, ih o' Γ p _ r p' s' h⟩
  | update a _ f k ih =>
    intro Γ p s r p' s' h
    obtain ⟨T, n, life, gens, drawn, toks, os⟩ := s
    have h : (match Nat.blt a n with | true => (match T.get a with | some o => (match alive o with | some _ => bsT prog w.params code (k ()) Γ p ⟨T.set a f, n, life, gens, drawn, toks, os⟩ | none => none) | none => none) | false => none) = some (r, p', s') := h
    cases e1 : Nat.blt a n with
    | false => rw [e1] at h; cases h
    | true =>
      cases e2 : T.get a with
      | none => rw [e1, e2] at h; cases h
      | some o =>
        cases e3 : alive o with
        | none => simp only [e1, e2, e3] at h; cases h
        | some o' =>
          simp only [e1, e2, e3] at h
          have g : (absHeap T n life).get? a = some o' := (abs_get (life := life) (blt_true e1) e2).trans e3
          refine ⟨?_, ?_⟩
          · show ((absHeap T n life).get? a).isSome = true
            rw [g]; rfl
          · have := ih () Γ p _ r p' s' h
            have z : (absHeap (T.set a f) n life) = (absHeap T n life).update a f := absHeap_set e2
            simp only [SharedT.abs, z] at this ⊢
            exact this
  | alloc o k ih =>
    intro Γ p s r p' s' h
    obtain ⟨T, n, life, gens, drawn, toks, os⟩ := s
    have h : (match ((T.ins n o).get n).isSome with | true => bsT prog w.params code (k n) Γ p ⟨T.ins n o, n + 1, life, gens, drawn, toks, os⟩ | false => none) = some (r, p', s') := h
    cases e1 : ((T.ins n o).get n).isSome with
    | false => rw [e1] at h; cases h
    | true =>
      simp only [e1] at h
      have := ih n Γ p _ r p' s' h
      have z : absHeap (T.ins n o) (n + 1) life = (absHeap T n life).push o := absHeap_ins e1
      simp only [SharedT.abs, z] at this ⊢
      show Sem.wp (model prog w) Γ (k (absHeap T n life).objs.size) _ _ p _
      rw [absHeap_size]; exact this
  | loadIfAlive a k ih =>
    intro Γ p s r p' s' h
    obtain ⟨T, n, life, gens, drawn, toks, os⟩ := s
    have q : bsT prog w.params code (.loadIfAlive a k) Γ p ⟨T, n, life, gens, drawn, toks, os⟩ = (match Nat.blt a n with | true => (match T.get a with | some o => bsT prog w.params code (k (alive o)) Γ p ⟨T, n, life, gens, drawn, toks, os⟩ | none => none) | false => bsT prog w.params code (k none) Γ p ⟨T, n, life, gens, drawn, toks, os⟩) := by kernel_rfl
    rw [q] at h
    cases e1 : Nat.blt a n with
    | false =>
      simp only [e1] at h
      show Sem.wp (model prog w) Γ (k ((absHeap T n life).get? a)) _ _ p _
      rw [abs_get_none (blt_false e1)]
      exact ih none Γ p _ r p' s' h
    | true =>
      cases e2 : T.get a with
      | none => simp only [e1, e2] at h; cases h
      | some o =>
        simp only [e1, e2] at h
        show Sem.wp (model prog w) Γ (k ((absHeap T n life).get? a)) _ _ p _
        rw [abs_get (blt_true e1) e2]
        exact ih _ Γ p _ r p' s' h
  | call c hd g l k ih =>
    intro Γ p s r p' s' h
    have q : bsT prog w.params code (.call c hd g l k) Γ p s = (match code (Γ.enter c hd p) p s with | some (r, s') => bsT prog w.params code (k r) Γ p s' | none => none) := by kernel_rfl
    rw [q] at h
    cases e1 : code (Γ.enter c hd p) p s with
    | none => rw [e1] at h; cases h
    | some x =>
      obtain ⟨r1, s1⟩ := x
      simp only [e1] at h
      exact wpCode_mono (fun r' x ⟨a, b⟩ => by subst a; subst b; exact ih r' Γ p s1 r p' s' h) (hc _ _ _ _ _ e1)
  | _ => intro Γ p s r p' s' h; exact (none_ne (show none = some (r, p', s') from h)).elim

theorem bsC_sound : ∀ (n : Nat) (Γ : Ctx) (p : Pos) (s : SharedT) (r : Result) (s' : SharedT), bsC prog w.params n Γ p s = some (r, s') → wpCode (model prog w) Γ (fun r' x => r' = r ∧ x = s'.abs) p s.abs
  | 0, _, _, _, _, _, h => by simp only [bsC] at h; cases h
  | n + 1, Γ, p, s, r, s', h => by
    simp only [bsC] at h
    rw [wpCode_iff_wp]
    show Sem.wp (model prog w) Γ (denote table Γ.code) _ _ p s.abs
    rw [table_eq_tree, denQ_eq]
    cases e : bsT prog w.params (bsC prog w.params n) (denQ Γ.code) Γ p s with
    | none => rw [e] at h; cases h
    | some x =>
      obtain ⟨r1, p1, s1⟩ := x
      have z := bsT_sound (w := w) (fun Γ p s r s' => bsC_sound n Γ p s r s') _ _ _ _ _ _ _ e
      refine Sem.wp_mono _ _ _ ?_ ?_ _ _ z
      · rintro a q x ⟨rfl, rfl, rfl⟩
        rw [e] at h
        cases a with
        | done f => cases h; exact ⟨rfl, rfl⟩
        | again c =>
          simp only at h
          cases hq : c.quiet with
          | false => rw [hq] at h; cases h
          | true =>
            rw [hq] at h
            exact ⟨hq, bsC_sound n _ _ _ _ _ h⟩
      · rintro a q x ⟨rfl, rfl, rfl⟩
        rw [e] at h
        cases h; exact ⟨rfl, rfl⟩

theorem bs_sound {α : Type} {n : Nat} {t : Sem α} {Γ : Ctx} {p : Pos} {s : SharedT} {r : Except Value α} {p' : Pos} {s' : SharedT} (h : bs prog w.params n t Γ p s = some (r, p', s')) :
    Sem.wp (model prog w) Γ t (fun a q x => r = .ok a ∧ q = p' ∧ x = s'.abs) (fun e q x => r = .error e ∧ q = p' ∧ x = s'.abs) p s.abs :=
  bsT_sound (fun Γ p s r s' => bsC_sound n Γ p s r s') _ _ _ _ _ _ _ h
end
end Mine

end
noncomputable section
open PySem PySem.W PyProof.Rows
set_option Elab.async false
namespace Mine

/-- a constant: a text or an int -/
inductive Cv where
  | s (x : Str)
  | i (n : Int)
def mkC : Cv → Sem Value
  | .s x => mkText x
  | .i n => mkInt n
def valC : Cv → Tok → Value
  | .s x, t => .str x t
  | .i n, t => .int n t
theorem wpAny_mkC {prog : Program} {w : World} {A : Around} {E : Value → Shared → Prop} {s : Shared} {c : Cv} {Q : Value → Shared → Prop} (h : Q (valC c s.toks) { s with toks := s.toks + 1 }) : wpAny (model prog w) A (mkC c) Q E s := by
  cases c with
  | s x => exact wpAny_mkText h
  | i n => exact wpAny_mkInt h

/-! heaps with a list of objects behind them -/
def ext (h : Heap) (os : List Obj) : Heap := ⟨h.objs ++ os.toArray, h.life⟩
theorem ext_nil (h : Heap) : ext h [] = h := by simp [ext]
theorem ext_push (h : Heap) (os : List Obj) (o : Obj) : (ext h os).push o = ext h (os ++ [o]) := by
  simp [ext, Heap.push]
theorem ext_size (h : Heap) (os : List Obj) : (ext h os).objs.size = h.objs.size + os.length := by simp [ext]
theorem ext_update (h : Heap) (pre post : List Obj) (o : Obj) (f : Obj → Obj) : (ext h (pre ++ o :: post)).update (h.objs.size + pre.length) f = ext h (pre ++ f o :: post) := by
  simp only [ext, Heap.update]
  congr 1
  apply Array.ext_getElem?
  intro i
  rw [Array.getElem?_modify]
  by_cases hi : i < h.objs.size
  · rw [Array.getElem?_append_left hi, Array.getElem?_append_left hi, if_neg (by omega)]
  · rw [Array.getElem?_append_right (by omega), Array.getElem?_append_right (by omega), List.getElem?_toArray, List.getElem?_toArray]
    by_cases hj : i = h.objs.size + pre.length
    · rw [if_pos hj.symm, hj, Nat.add_sub_cancel_left]; simp
    · rw [if_neg (Ne.symm hj)]
      by_cases hk : i - h.objs.size < pre.length
      · rw [List.getElem?_append_left hk, List.getElem?_append_left hk]
      · rw [List.getElem?_append_right (by omega), List.getElem?_append_right (by omega)]
        obtain ⟨m, hm⟩ : ∃ m, i - h.objs.size - pre.length = m + 1 := ⟨i - h.objs.size - pre.length - 1, by omega⟩
        rw [hm]; simp
theorem ext_get (h : Heap) (pre post : List Obj) (o : Obj) (hf : o.isFreed = false) : (ext h (pre ++ o :: post)).get? (h.objs.size + pre.length) = some o := by
  unfold Heap.get?
  have : (ext h (pre ++ o :: post)).objs[h.objs.size + pre.length]? = some o := by
    simp only [ext]
    rw [Array.getElem?_append_right (by omega), List.getElem?_toArray, Nat.add_sub_cancel_left]; simp
  rw [this]
  obtain ⟨c, d, dt, sl⟩ := o
  cases dt <;> first | rfl | cases hf

abbrev dObj (es : List DictEntry) (n : Nat) : Obj := { cls := .type "dict", data := .dict es.toArray n }
theorem dObj_push (es : List DictEntry) (n : Nat) (e : DictEntry) : Obj.mapDictKeys (·.push e) (dObj es n) = dObj (es ++ [e]) (n + 1) := by
  simp [Obj.mapDictKeys, dObj]

def entryAt (t : Nat) (p : Int × Cv) : DictEntry := ⟨hashInt p.1, .int p.1 t, valC p.2 (t + 1)⟩
def longEs : Nat → List (Int × Cv) → List DictEntry
  | _, [] => []
  | t, p :: r => entryAt t p :: longEs (t + 3) r
def shortEs : Nat → List (Int × Cv) → List DictEntry
  | _, [] => []
  | t, p :: r => entryAt t p :: shortEs (t + 2) r
theorem longEs_length (t : Nat) (l : List (Int × Cv)) : (longEs t l).length = l.length := by
  induction l generalizing t with
  | nil => rfl
  | cons p r ih => simp [longEs, ih]
theorem shortEs_length (t : Nat) (l : List (Int × Cv)) : (shortEs t l).length = l.length := by
  induction l generalizing t with
  | nil => rfl
  | cons p r ih => simp [shortEs, ih]
def keyOf (e : DictEntry) : Option Int := match e.key with | .int k _ => some k | _ => none
/-- entries of int keys with their hashes -/
def IntEs (es : List DictEntry) : Prop := ∀ e ∈ es, ∃ k t, e.key = .int k t ∧ e.hash = hashInt k
theorem intEs_long (t : Nat) (l : List (Int × Cv)) : IntEs (longEs t l) := by
  induction l generalizing t with
  | nil => intro e he; cases he
  | cons p r ih =>
    intro e he
    rcases List.mem_cons.mp he with rfl | he
    · exact ⟨_, _, rfl, rfl⟩
    · exact ih _ e he
theorem intEs_short (t : Nat) (l : List (Int × Cv)) : IntEs (shortEs t l) := by
  induction l generalizing t with
  | nil => intro e he; cases he
  | cons p r ih =>
    intro e he
    rcases List.mem_cons.mp he with rfl | he
    · exact ⟨_, _, rfl, rfl⟩
    · exact ih _ e he
theorem keys_long (t : Nat) (l : List (Int × Cv)) : (longEs t l).map keyOf = l.map (fun p => some p.1) := by
  induction l generalizing t with
  | nil => rfl
  | cons p r ih => simp [longEs, ih, keyOf, entryAt]
theorem keys_short (t : Nat) (l : List (Int × Cv)) : (shortEs t l).map keyOf = l.map (fun p => some p.1) := by
  induction l generalizing t with
  | nil => rfl
  | cons p r ih => simp [shortEs, ih, keyOf, entryAt]
theorem find_none {es : List DictEntry} {k : Int} (h : some k ∉ es.map keyOf) : (es.toArray.findIdx? fun e => Value.isInt k e.key) = none := by
  rw [List.findIdx?_toArray, List.findIdx?_eq_none_iff]
  intro e he
  cases hk : e.key <;> simp only [Value.isInt] 
  rename_i j t
  cases q : j == k with
  | false => rfl
  | true =>
    exfalso
    apply h
    rw [List.mem_map]
    exact ⟨e, he, by rw [keyOf, hk, eq_of_beq q]⟩

section
variable {prog : Program} {w : World} {A : Around} {E : Value → Shared → Prop} {s : Shared}

/-- the dict at d gets one more entry -/
theorem find_fresh {d : Addr} {es : List DictEntry} {n : Nat} {k : Int} {t : Tok} {Q : Option Nat → Shared → Prop} (ho : s.heap.get? d = some (dObj es n)) (hi : IntEs es) (hk : some k ∉ es.map keyOf) (h : Q none s) :
    wpAny (model prog w) A (dictFind d (.int k t) (hashInt k)) Q E s :=
  wpAny_dictFind_int ho rfl (fun e he => hi e (by simpa using he)) (by rw [find_none hk]; exact h)
theorem put_fresh {d : Addr} {es : List DictEntry} {n : Nat} {k : Int} {t : Tok} {v : Value} {Q : Unit → Shared → Prop} (ho : s.heap.get? d = some (dObj es n)) (hi : IntEs es) (hk : some k ∉ es.map keyOf) (hz : es.length ≤ sizeLine)
    (h : Q () { s with heap := s.heap.update d (Obj.mapDictKeys (·.push ⟨hashInt k, .int k t, v⟩)) }) : wpAny (model prog w) A (dictPut d (hashInt k) (.int k t) v) Q E s := by
  unfold dictPut
  refine wpAny_bind (find_fresh ho hi hk ?_)
  exact wpAny_updateDictKeys ho rfl h (hz := by simpa using hz)
theorem set_fresh {d : Addr} {es : List DictEntry} {n : Nat} {k : Int} {t : Tok} {v : Value} {Q : Unit → Shared → Prop} (ho : s.heap.get? d = some (dObj es n)) (hi : IntEs es) (hk : some k ∉ es.map keyOf) (hz : es.length ≤ sizeLine)
    (h : Q () { s with heap := s.heap.update d (Obj.mapDictKeys (·.push ⟨hashInt k, .int k t, v⟩)), toks := s.toks + 1 }) : wpAny (model prog w) A (dictSet d (.int k t) v) Q E s := by
  unfold dictSet
  refine wpAny_holding (wpAny_bind (wpAny_pyHash_int ?_))
  unfold dictSetHashed
  refine wpAny_holding (wpAny_bind (find_fresh (s := { s with toks := s.toks + 1 }) ho hi hk ?_))
  exact wpAny_bind (wpAny_rule (wpAny_updateDictKeys (s := { s with toks := s.toks + 1 }) ho rfl h (hz := by simpa using hz)))

abbrev kT (p : Int × Cv) : Sem Value := mkInt p.1
abbrev vT (pos : Pos) (p : Int × Cv) : Sem Value := do let x ← mkC p.2; standAt pos; pure x

theorem long_loop {pos : Pos} {d : Addr} {h : Heap} {pre post : List Obj} (hd : d = h.objs.size + pre.length) : ∀ (l : List (Int × Cv)) (es : List DictEntry) (n : Nat) (s : Shared) (Q : PUnit → Shared → Prop),
    s.heap = ext h (pre ++ dObj es n :: post) → IntEs es → (es.map keyOf ++ l.map (fun p => some p.1)).Nodup → es.length + l.length ≤ sizeLine →
    Q PUnit.unit { s with heap := ext h (pre ++ dObj (es ++ longEs s.toks l) (n + l.length) :: post), toks := s.toks + 3 * l.length } →
    wpAny (model prog w) A (forIn (l.map fun p => (kT p, vT pos p)) PUnit.unit fun (x : Sem Value × Sem Value) (_ : PUnit) => (do let kv ← x.1; let vv ← holding [kv] x.2; holding [kv, vv] (dictSet d kv vv); pure (ForInStep.yield PUnit.unit) : Sem (ForInStep PUnit))) Q E s
  | [], es, n, s, Q, e, _, _, _, hQ => by
    rw [List.map_nil, List.forIn_nil]
    refine wpAny_pure ?_
    simpa [longEs, ← e] using hQ
  | p :: l, es, n, s, Q, e, hi, hn, hz, hQ => by
    rw [List.map_cons, List.forIn_cons]
    have hk : some p.1 ∉ es.map keyOf := fun q => by
      rw [List.nodup_append] at hn
      exact hn.2.2 _ q _ (by simp) rfl
    simp only [List.length_cons] at hz
    refine wpAny_bind (wpAny_bind (wpAny_mkInt (wpAny_bind (wpAny_holding (wpAny_bind (wpAny_mkC (wpAny_bind (wpAny_standAt (wpAny_pure ?_)))))))))
    refine wpAny_bind (wpAny_holding (set_fresh (es := es) (n := n) (s := { s with toks := s.toks + 1 + 1 }) ?_ hi hk (by omega) (wpAny_pure ?_)))
    · show s.heap.get? d = _
      rw [e, hd]; exact ext_get _ _ _ _ rfl
    · show wpAny _ _ (forIn (l.map fun p => (kT p, vT pos p)) PUnit.unit _) Q E _
      refine long_loop (post := post) hd l (es ++ [entryAt s.toks p]) (n + 1) _ Q ?_ ?_ ?_ ?_ ?_
      · show s.heap.update d _ = _
        rw [e, hd, ext_update, dObj_push]; rfl
      · intro x hx
        rcases List.mem_append.mp hx with q | q
        · exact hi x q
        · rcases List.mem_singleton.mp q with rfl
          exact ⟨_, _, rfl, rfl⟩
      · simpa [keyOf, entryAt] using hn
      · simp only [List.length_append, List.length_cons, List.length_nil]; omega
      · have z := hQ
        simp only [longEs, List.length_cons] at z
        simp only [List.append_assoc, List.cons_append, List.nil_append]
        have a1 : s.toks + 1 + 1 + 1 + 3 * l.length = s.toks + 3 * (l.length + 1) := by omega
        have a2 : n + 1 + l.length = n + (l.length + 1) := by omega
        rw [a1, a2]; exact z

theorem short_loop {d : Addr} {h : Heap} {pre post : List Obj} (hd : d = h.objs.size + pre.length) : ∀ (l es : List DictEntry) (n : Nat) (s : Shared) (Q : PUnit → Shared → Prop),
    s.heap = ext h (pre ++ dObj es n :: post) → IntEs es → IntEs l → ((es ++ l).map keyOf).Nodup → es.length + l.length ≤ sizeLine →
    Q PUnit.unit { s with heap := ext h (pre ++ dObj (es ++ l) (n + l.length) :: post), toks := s.toks + l.length } →
    wpAny (model prog w) A (forIn (l.map fun e => (e.key, e.val)) PUnit.unit fun (x : Value × Value) (_ : PUnit) => (do dictSet d x.1 x.2; pure (ForInStep.yield PUnit.unit) : Sem (ForInStep PUnit))) Q E s
  | [], es, n, s, Q, e, _, _, _, _, hQ => by
    rw [List.map_nil, List.forIn_nil]
    refine wpAny_pure ?_
    simpa [← e] using hQ
  | p :: l, es, n, s, Q, e, hi, hl, hn, hz, hQ => by
    rw [List.map_cons, List.forIn_cons]
    obtain ⟨k, t, hk1, hk2⟩ := hl p (.head _)
    have hk : some k ∉ es.map keyOf := fun q => by
      rw [List.map_append, List.nodup_append] at hn
      exact hn.2.2 _ q (some k) (by simp [keyOf, hk1]) rfl
    simp only [List.length_cons] at hz
    have hp : p = ⟨hashInt k, .int k t, p.val⟩ := by
      obtain ⟨a, b, c⟩ := p
      simp only at hk1 hk2
      rw [hk1, hk2]
    rw [hk1]
    refine wpAny_bind (wpAny_bind (set_fresh (es := es) (n := n) ?_ hi hk (by omega) (wpAny_pure ?_)))
    · rw [e, hd]; exact ext_get _ _ _ _ rfl
    · show wpAny _ _ (forIn (l.map fun e => (e.key, e.val)) PUnit.unit _) Q E _
      refine short_loop (post := post) hd l (es ++ [p]) (n + 1) _ Q ?_ ?_ ?_ ?_ ?_ ?_
      · show s.heap.update d _ = _
        rw [e, hd, ext_update, dObj_push, ← hp]
      · intro x hx
        rcases List.mem_append.mp hx with q | q
        · exact hi x q
        · rcases List.mem_singleton.mp q with rfl
          exact ⟨_, _, hk1, hk2⟩
      · exact fun x hx => hl x (.tail _ hx)
      · simpa using hn
      · simp only [List.length_append, List.length_cons, List.length_nil]; omega
      · have z := hQ
        simp only [List.length_cons] at z
        simp only [List.append_assoc, List.cons_append, List.nil_append]
        have a1 : s.toks + 1 + l.length = s.toks + (l.length + 1) := by omega
        have a2 : n + 1 + l.length = n + (l.length + 1) := by omega
        rw [a1, a2]; exact z

theorem pairs_loop {pos : Pos} : ∀ (l : List (Int × Cv)) (s : Shared) (Q : List (Value × Value) → Shared → Prop),
    Q ((shortEs s.toks l).map fun e => (e.key, e.val)) { s with toks := s.toks + 2 * l.length } → wpAny (model prog w) A (evalPairs (l.map fun p => (kT p, vT pos p))) Q E s
  | [], s, Q, hQ => by simpa [shortEs] using evalPairs_nil (by simpa [shortEs] using hQ)
  | p :: l, s, Q, hQ => by
    rw [List.map_cons]
    refine evalPairs_cons (wpAny_mkInt (wpAny_bind (wpAny_mkC (wpAny_bind (wpAny_standAt (wpAny_pure ?_))))))
    refine pairs_loop l _ _ ?_
    have z := hQ
    simp only [shortEs, List.length_cons, List.map_cons] at z
    have a1 : s.toks + 1 + 1 + 2 * l.length = s.toks + 2 * (l.length + 1) := by omega
    show Q _ { s with toks := s.toks + 1 + 1 + 2 * l.length }
    rw [a1]; exact z
end
end Mine

end
noncomputable section
open PySem PySem.W PyProof.Rows
set_option Elab.async false
namespace Mine
section
variable {prog : Program} {w : World} {A : Around} {E : Value → Shared → Prop}

theorem sub_long {pos : Pos} {h : Heap} {os : List Obj} {s : Shared} {l : List (Int × Cv)} {Q : Addr → Shared → Prop} (e : s.heap = ext h os) (hl : 15 < l.length) (hz : l.length ≤ sizeLine) (hn : (l.map (·.1)).Nodup)
    (hQ : Q (h.objs.size + os.length) { s with heap := ext h (os ++ [dObj (longEs s.toks l) l.length]), toks := s.toks + 3 * l.length }) :
    wpAny (model prog w) A (subDict (l.map fun p => (kT p, vT pos p))) Q E s := by
  unfold subDict
  refine wpAny_bind (wpAny_alloc ?_)
  refine wpAny_bind (wpAny_holding ?_)
  rw [if_neg (by rw [List.length_map]; omega)]
  refine wpAny_bind (wpAny_rule ?_)
  have ea : s.heap.objs.size = h.objs.size + os.length := by rw [e, ext_size]
  rw [ea]
  refine wpAny_bind ?_
  refine long_loop (pos := pos) (h := h) (pre := os) (post := []) rfl l [] 0 _ _ ?_ (fun x hx => by cases hx) ?_ ?_ ?_
  · show s.heap.push _ = _
    rw [e, ext_push]
  · have : l.map (fun p => some p.1) = (l.map (·.1)).map some := by simp
    rw [List.map_nil, List.nil_append, this]
    exact List.Pairwise.map _ (fun a b hab q => hab (Option.some.inj q)) hn
  · simpa using hz
  · refine wpAny_pure (wpAny_pure ?_)
    simpa using hQ

theorem sub_short {pos : Pos} {h : Heap} {os : List Obj} {s : Shared} {l : List (Int × Cv)} {Q : Addr → Shared → Prop} (e : s.heap = ext h os) (hl : l.length ≤ 15) (hn : (l.map (·.1)).Nodup)
    (hQ : Q (h.objs.size + os.length) { s with heap := ext h (os ++ [dObj (shortEs s.toks l) l.length]), toks := s.toks + 3 * l.length }) :
    wpAny (model prog w) A (subDict (l.map fun p => (kT p, vT pos p))) Q E s := by
  unfold subDict
  refine wpAny_bind (wpAny_alloc ?_)
  refine wpAny_bind (wpAny_holding ?_)
  rw [if_pos (by rw [List.length_map]; omega)]
  have ea : s.heap.objs.size = h.objs.size + os.length := by rw [e, ext_size]
  rw [ea]
  refine wpAny_bind (pairs_loop _ _ _ ?_)
  refine wpAny_holding ?_
  refine wpAny_bind ?_
  refine short_loop (h := h) (pre := os) (post := []) rfl (shortEs s.toks l) [] 0 _ _ ?_ (fun x hx => by cases hx) (intEs_short _ _) ?_ ?_ ?_
  · show s.heap.push _ = _
    rw [e, ext_push]
  · have : l.map (fun p => some p.1) = (l.map (·.1)).map some := by simp
    rw [List.nil_append, keys_short, this]
    exact List.Pairwise.map _ (fun a b hab q => hab (Option.some.inj q)) hn
  · rw [shortEs_length, sizeLine_eq]; simp; omega
  · refine wpAny_pure (wpAny_pure ?_)
    have a1 : s.toks + 2 * l.length + l.length = s.toks + 3 * l.length := by omega
    simpa [shortEs_length, a1] using hQ

/-- one turn of the merge -/
theorem merge_loop {d a : Addr} {h : Heap} {post : List Obj} {sub : List DictEntry} {ns : Nat} (hd : d = h.objs.size) (ha : a = h.objs.size + (post.length + 1)) :
    ∀ (k : Nat) (es : List DictEntry) (n : Nat) (s : Shared) (Q : PUnit → Shared → Prop), k ≤ sub.length → s.heap = ext h (dObj (es ++ sub.take (sub.length - k)) n :: (post ++ [dObj sub ns])) → IntEs es → IntEs sub → ((es ++ sub).map keyOf).Nodup → es.length + sub.length ≤ sizeLine →
    Q PUnit.unit { s with heap := ext h (dObj (es ++ sub) (n + k) :: (post ++ [dObj sub ns])) } →
    wpAny (model prog w) A (forIn (List.range' (sub.length - k) k) PUnit.unit fun (i : Nat) (_ : PUnit) => (do
      let xs ← dictEntries a
      match xs[i]? with
      | some e =>
        holding [e.key, e.val] (dictPut d e.hash e.key e.val)
        let ep ← dictEpoch a
        if (ep != ns) = true then do (unsupported "dict.changed-during-merge" : Sem Unit); pure (ForInStep.yield PUnit.unit) else pure (ForInStep.yield PUnit.unit)
      | _ => do (unsupported "dict.changed-during-merge" : Sem Unit); pure (ForInStep.yield PUnit.unit) : Sem (ForInStep PUnit))) Q E s
  | 0, es, n, s, Q, _, e, _, _, _, _, hQ => by
    rw [List.range'_zero, List.forIn_nil]
    refine wpAny_pure ?_
    rw [Nat.sub_zero, List.take_length] at e
    rw [Nat.add_zero, ← e] at hQ
    exact hQ
  | k + 1, es, n, s, Q, hk, e, hi, hj, hn, hz, hQ => by
    rw [List.range'_succ, List.forIn_cons]
    have hlt : sub.length - (k + 1) < sub.length := by omega
    obtain ⟨j, t, q1, q2⟩ := hj _ (List.getElem_mem hlt)
    have hs : s.heap.get? a = some (dObj sub ns) := by
      rw [e, ha]
      have := ext_get h (dObj (es ++ sub.take (sub.length - (k + 1))) n :: post) [] (dObj sub ns) rfl
      simpa using this
    have hdd : s.heap.get? d = some (dObj (es ++ sub.take (sub.length - (k + 1))) n) := by
      rw [e, hd]
      have := ext_get h [] (post ++ [dObj sub ns]) (dObj (es ++ sub.take (sub.length - (k + 1))) n) rfl
      simpa using this
    have hsplit : sub = sub.take (sub.length - (k + 1)) ++ sub[sub.length - (k + 1)] :: sub.drop (sub.length - (k + 1) + 1) := by
      rw [← List.drop_eq_getElem_cons hlt, List.take_append_drop]
    have htake : sub.take (sub.length - k) = sub.take (sub.length - (k + 1)) ++ [sub[sub.length - (k + 1)]] := by
      rw [show sub.length - k = sub.length - (k + 1) + 1 by omega, List.take_succ_eq_append_getElem hlt]
    have hent : sub[sub.length - (k + 1)] = ⟨hashInt j, .int j t, sub[sub.length - (k + 1)].val⟩ := by
      rw [← q1, ← q2]
    refine wpAny_bind (wpAny_bind (wpAny_dictEntries hs rfl ?_))
    have hget : sub.toArray[sub.length - (k + 1)]? = some sub[sub.length - (k + 1)] := by
      rw [List.getElem?_toArray, List.getElem?_eq_getElem hlt]
    simp only [hget]
    rw [q1, q2]
    refine wpAny_bind (wpAny_holding (put_fresh (es := es ++ sub.take (sub.length - (k + 1))) (n := n) hdd ?_ ?_ ?_ ?_))
    · intro x hx
      rcases List.mem_append.mp hx with q | q
      · exact hi x q
      · exact hj x (List.mem_of_mem_take q)
    · intro q
      rw [hsplit] at hn
      simp only [List.map_append, List.map_cons, ← List.append_assoc] at hn
      rw [List.nodup_append] at hn
      have := hn.2.2 _ (by simpa using q) (keyOf sub[sub.length - (k + 1)]) (.head _)
      exact this (by rw [keyOf, q1])
    · simp only [List.length_append, List.length_take]; omega
    · have hheap : s.heap.update d (Obj.mapDictKeys (·.push ⟨hashInt j, .int j t, sub[sub.length - (k + 1)].val⟩)) = ext h (dObj (es ++ sub.take (sub.length - k)) (n + 1) :: (post ++ [dObj sub ns])) := by
        rw [e, hd]
        have := ext_update h [] (post ++ [dObj sub ns]) (dObj (es ++ sub.take (sub.length - (k + 1))) n) (Obj.mapDictKeys (·.push ⟨hashInt j, .int j t, sub[sub.length - (k + 1)].val⟩))
        simp only [List.length_nil, Nat.add_zero, List.nil_append] at this
        rw [this, dObj_push, htake, List.append_assoc, ← hent]
      rw [hheap]
      refine wpAny_bind (wpAny_dictEpoch (o := dObj sub ns) (ep := ns) ?_ rfl ?_)
      · show (ext h _).get? a = _
        rw [ha]
        have := ext_get h (dObj (es ++ sub.take (sub.length - k)) (n + 1) :: post) [] (dObj sub ns) rfl
        simpa using this
      · rw [if_neg (by simp)]
        refine wpAny_pure ?_
        show wpAny _ _ (forIn (List.range' (sub.length - (k + 1) + 1) k) PUnit.unit _) Q E _
        rw [show sub.length - (k + 1) + 1 = sub.length - k by omega]
        refine merge_loop hd ha k es (n + 1) _ Q (by omega) rfl hi hj hn hz ?_
        rw [show n + 1 + k = n + (k + 1) by omega]
        exact hQ
end
end Mine

end
noncomputable section
open PySem PySem.W PyProof.Rows
set_option Elab.async false
namespace Mine
section
variable {prog : Program} {w : World} {A : Around} {E : Value → Shared → Prop}

theorem merge_sub {h : Heap} {post : List Obj} {es sub : List DictEntry} {n : Nat} {s : Shared} {Q : Unit → Shared → Prop} (e : s.heap = ext h (dObj es n :: (post ++ [dObj sub sub.length]))) (hne : es ≠ [])
    (hsys : h.objs.size + (post.length + 1) ≠ sysModules) (hi : IntEs es) (hj : IntEs sub) (hn : ((es ++ sub).map keyOf).Nodup) (hz : es.length + sub.length ≤ sizeLine)
    (hQ : Q () { s with heap := ext h (dObj (es ++ sub) (n + sub.length) :: (post ++ [dObj sub sub.length])) }) :
    wpAny (model prog w) A (mergeMapping h.objs.size (.ref (h.objs.size + (post.length + 1))) false) Q E s := by
  have hs : s.heap.get? (h.objs.size + (post.length + 1)) = some (dObj sub sub.length) := by
    rw [e]
    have := ext_get h (dObj es n :: post) [] (dObj sub sub.length) rfl
    simpa using this
  have hdd : s.heap.get? h.objs.size = some (dObj es n) := by
    rw [e]
    have := ext_get h [] (post ++ [dObj sub sub.length]) (dObj es n) rfl
    simpa using this
  have hT : s.TypeIs (.ref (h.objs.size + (post.length + 1))) "dict" := ⟨_, hs, rfl⟩
  unfold mergeMapping
  refine wpAny_bind (wpAny_isInstance hT isSubtype_dict_dict ?_)
  rw [if_pos rfl]
  refine wpAny_bind (wpAny_specialOf hT F.slot_dict_iter.lookup ?_)
  refine wpAny_bind (wpAny_pure ?_)
  simp only [beq_self_eq_true]
  rw [if_neg (by simpa using hsys)]
  refine wpAny_bind (wpAny_dictEntries hdd rfl ?_)
  rw [if_neg (by simpa using hne)]
  refine wpAny_bind (wpAny_dictEntries hs rfl ?_)
  refine wpAny_bind (wpAny_dictEpoch hs rfl ?_)
  rw [List.size_toArray, List.range_eq_range']
  refine wpAny_bind ?_
  have z := merge_loop (prog := prog) (w := w) (A := A) (E := E) (h := h) (post := post) (sub := sub) (ns := sub.length) rfl rfl sub.length es n s (fun u s' => wpAny (model prog w) A (pure ()) Q E s') (Nat.le_refl _) (by simpa using e) hi hj hn hz (wpAny_pure hQ)
  rw [Nat.sub_self] at z
  exact z

abbrev tr (pos : Pos) (p : Int × Cv) : Sem Value × Sem Value := (kT p, vT pos p)
abbrev itm (pos : Pos) (p : Int × Cv) : Option (Sem Value) × Sem Value := (some (kT p), vT pos p)

def flush (run : List (Sem Value × Sem Value)) (main : Option Addr) : Sem (Option Addr) := do
  if run.isEmpty then return main
  match main with
  | none => return some (← subDict run)
  | some d =>
    let sub ← holding [.ref d] (subDict run)
    (holding [.ref d, .ref sub] (mergeMapping d (.ref sub) false)).onRaise fun x => do let _ ← holding [.ref d, x] (runValue (.builtin "proto.let_go" {}))
    return some d

abbrev Stp := (Option (Sem Value) × Sem Value) → (Option Addr × List (Sem Value × Sem Value)) → Sem (ForInStep (Option Addr × List (Sem Value × Sem Value)))
structure Feeds (pos : Pos) (f : Stp) : Prop where
  more : ∀ p main run, run.length + 1 < 17 → f (itm pos p) (main, run) = pure (.yield (main, run ++ [tr pos p]))
  full : ∀ p main run, run.length + 1 = 17 → f (itm pos p) (main, run) = (flush (run ++ [tr pos p]) main >>= fun m => pure (.yield (m, [])))

theorem gather {pos : Pos} {f : Stp} (hf : Feeds pos f) (rest : List (Option (Sem Value) × Sem Value)) : ∀ (l : List (Int × Cv)) (main : Option Addr) (run : List (Sem Value × Sem Value)), run.length + l.length < 17 →
    forIn (l.map (itm pos) ++ rest) (main, run) f = forIn rest (main, run ++ l.map (tr pos)) f
  | [], main, run, _ => by simp
  | p :: l, main, run, h => by
    rw [List.map_cons, List.cons_append, List.forIn_cons, hf.more p main run (by simp at h; omega), pure_bind]
    have := gather hf rest l main (run ++ [tr pos p]) (by simp at h ⊢; omega)
    simpa using this
theorem gather17 {pos : Pos} {f : Stp} (hf : Feeds pos f) (rest : List (Option (Sem Value) × Sem Value)) (c : List (Int × Cv)) (hc : c.length = 17) (main : Option Addr) :
    forIn (c.map (itm pos) ++ rest) (main, []) f = (flush (c.map (tr pos)) main >>= fun m => forIn rest (m, []) f) := by
  have h16 : (c.take 16).length = 16 := by rw [List.length_take]; omega
  obtain ⟨q, hq⟩ : ∃ q, c = c.take 16 ++ [q] := by
    refine ⟨c[16]'(by omega), ?_⟩
    rw [← List.take_succ_eq_append_getElem (by omega), List.take_of_length_le (by omega)]
  rw [hq, List.map_append, List.append_assoc, gather hf _ _ _ _ (by rw [h16]; simp)]
  rw [List.map_cons, List.map_nil, List.cons_append, List.nil_append, List.forIn_cons, hf.full q main _ (by simp; omega)]
  simp

theorem nodup_some {l : List (Int × Cv)} : (l.map (fun p => some p.1)).Nodup ↔ (l.map (·.1)).Nodup := by
  have : l.map (fun p => some p.1) = (l.map (·.1)).map some := by rw [List.map_map]; rfl
  rw [this]
  exact ⟨fun h => List.Pairwise.of_map _ (fun a b hab q => hab (by rw [q])) h, fun h => List.Pairwise.map _ (fun a b hab q => hab (Option.some.inj q)) h⟩
structure St3 where
  es : List DictEntry
  post : List Obj
  t : Nat
def St3.chunk (x : St3) (c : List (Int × Cv)) : St3 := ⟨x.es ++ longEs x.t c, x.post ++ [dObj (longEs x.t c) c.length], x.t + 3 * c.length⟩
def St3.last (x : St3) (c : List (Int × Cv)) : St3 := ⟨x.es ++ shortEs x.t c, x.post ++ [dObj (shortEs x.t c) c.length], x.t + 3 * c.length⟩
def St3.objs (x : St3) : List Obj := dObj x.es x.es.length :: x.post

theorem flush_sub {pos : Pos} {h : Heap} {x : St3} {s : Shared} {c : List (Int × Cv)} {es : List DictEntry} {Q : Option Addr → Shared → Prop} (e : s.heap = ext h x.objs) (hsys : sysModules < h.objs.size) (hne : x.es ≠ []) (hc0 : c ≠ [])
    (hi : IntEs x.es) (hes : IntEs es) (hlen : es.length = c.length) (hn : ((x.es ++ es).map keyOf).Nodup) (hz : x.es.length + c.length ≤ sizeLine)
    (hsub : ∀ Q' : Addr → Shared → Prop, Q' (h.objs.size + (x.post.length + 1)) { s with heap := ext h (x.objs ++ [dObj es c.length]), toks := s.toks + 3 * c.length } → wpAny (model prog w) A (subDict (c.map (tr pos))) Q' E s)
    (hQ : Q (some h.objs.size) { s with heap := ext h (dObj (x.es ++ es) (x.es ++ es).length :: (x.post ++ [dObj es c.length])), toks := s.toks + 3 * c.length }) :
    wpAny (model prog w) A (flush (c.map (tr pos)) (some h.objs.size)) Q E s := by
  unfold flush
  rw [if_neg (by cases c with | nil => exact absurd rfl hc0 | cons a b => simp)]
  refine wpAny_bind (wpAny_holding (hsub _ ?_))
  refine wpAny_bind (wpAny_onRaise (wpAny_holding ?_))
  have := merge_sub (prog := prog) (w := w) (A := A) (h := h) (post := x.post) (es := x.es) (sub := es) (n := x.es.length) (s := { s with heap := ext h (x.objs ++ [dObj es c.length]), toks := s.toks + 3 * c.length })
    (Q := fun _ s' => wpAny (model prog w) A (pure (some h.objs.size)) Q E s') (E := fun e s' => wpAny (model prog w) A (do let _ ← holding [.ref h.objs.size, e] (runValue (.builtin "proto.let_go" {}))) (fun _ s'' => E e s'') E s')
    (by rw [hlen]; rfl) hne (Nat.ne_of_gt (Nat.lt_of_lt_of_le hsys (Nat.le_add_right _ _))) hi hes hn (by omega) (by rw [hlen]; refine wpAny_pure ?_; simpa [hlen] using hQ)
  exact this

theorem flush_long {pos : Pos} {h : Heap} {x : St3} {s : Shared} {c : List (Int × Cv)} {Q : Option Addr → Shared → Prop} (e : s.heap = ext h x.objs) (et : s.toks = x.t) (hsys : sysModules < h.objs.size) (hne : x.es ≠ []) (hc : c.length = 17) (hi : IntEs x.es)
    (hn : (x.es.map keyOf ++ c.map (fun p => some p.1)).Nodup) (hz : x.es.length + c.length ≤ sizeLine)
    (hQ : Q (some h.objs.size) { s with heap := ext h (x.chunk c).objs, toks := (x.chunk c).t }) : wpAny (model prog w) A (flush (c.map (tr pos)) (some h.objs.size)) Q E s := by
  have hcn : (c.map (·.1)).Nodup := by
    have := (List.nodup_append.mp hn).2.1
    exact nodup_some.mp this
  refine flush_sub (es := longEs x.t c) e hsys hne (by intro q; rw [q] at hc; cases hc) hi (intEs_long _ _) (longEs_length _ _) (by rw [List.map_append, keys_long]; exact hn) hz (fun Q' hQ' => ?_) ?_
  · refine sub_long e (by omega) (by omega) hcn ?_
    rw [et] at hQ' ⊢
    have : x.objs.length = x.post.length + 1 := rfl
    rw [this]; exact hQ'
  · rw [et]; exact hQ

theorem flush_last {pos : Pos} {h : Heap} {x : St3} {s : Shared} {c : List (Int × Cv)} {Q : Option Addr → Shared → Prop} (e : s.heap = ext h x.objs) (et : s.toks = x.t) (hsys : sysModules < h.objs.size) (hne : x.es ≠ []) (hc : c.length ≤ 15) (hc0 : c ≠ []) (hi : IntEs x.es)
    (hn : (x.es.map keyOf ++ c.map (fun p => some p.1)).Nodup) (hz : x.es.length + c.length ≤ sizeLine)
    (hQ : Q (some h.objs.size) { s with heap := ext h (x.last c).objs, toks := (x.last c).t }) : wpAny (model prog w) A (flush (c.map (tr pos)) (some h.objs.size)) Q E s := by
  have hcn : (c.map (·.1)).Nodup := by
    have := (List.nodup_append.mp hn).2.1
    exact nodup_some.mp this
  refine flush_sub (es := shortEs x.t c) e hsys hne hc0 hi (intEs_short _ _) (shortEs_length _ _) (by rw [List.map_append, keys_short]; exact hn) hz (fun Q' hQ' => ?_) ?_
  · refine sub_short e hc hcn ?_
    rw [et] at hQ' ⊢
    have : x.objs.length = x.post.length + 1 := rfl
    rw [this]; exact hQ'
  · rw [et]; exact hQ

theorem chunks_loop {pos : Pos} {f : Stp} (hf : Feeds pos f) {h : Heap} (hsys : sysModules < h.objs.size) (rest : List (Option (Sem Value) × Sem Value)) {Q : (Option Addr × List (Sem Value × Sem Value)) → Shared → Prop} : ∀ (cs : List (List (Int × Cv))) (x : St3) (s : Shared), (∀ c ∈ cs, c.length = 17) → s.heap = ext h x.objs → s.toks = x.t → x.es ≠ [] → IntEs x.es →
    (x.es.map keyOf ++ cs.flatten.map (fun p => some p.1)).Nodup → x.es.length + cs.flatten.length ≤ sizeLine →
    (∀ y : St3, y = cs.foldl St3.chunk x → IntEs y.es → y.es ≠ [] → wpAny (model prog w) A (forIn rest (some h.objs.size, []) f) Q E { s with heap := ext h y.objs, toks := y.t }) →
    wpAny (model prog w) A (forIn (cs.flatten.map (itm pos) ++ rest) (some h.objs.size, []) f) Q E s
  | [], x, s, _, e, et, hne, hi, _, _, hQ => by
    have := hQ x rfl hi hne
    rw [← e, ← et] at this
    exact this
  | c :: cs, x, s, hc, e, et, hne, hi, hn, hz, hQ => by
    rw [List.flatten_cons, List.map_append, List.append_assoc, gather17 hf _ c (hc c (.head _))]
    simp only [List.flatten_cons, List.map_append, List.length_append] at hn hz
    refine wpAny_bind (flush_long e et hsys hne (hc c (.head _)) hi (by rw [← List.append_assoc] at hn; exact (List.nodup_append.mp hn).1) (by omega) ?_)
    refine chunks_loop hf hsys rest cs (x.chunk c) _ (fun a ha => hc a (.tail _ ha)) rfl rfl ?_ ?_ ?_ ?_ (fun y hy h1 h2 => hQ y hy h1 h2)
    · show x.es ++ _ ≠ []
      simp [hne]
    · intro z hz'
      rcases List.mem_append.mp hz' with q | q
      · exact hi z q
      · exact intEs_long _ _ z q
    · show ((x.es ++ longEs x.t c).map keyOf ++ _).Nodup
      rw [List.map_append, keys_long, List.append_assoc]; exact hn
    · show (x.es ++ longEs x.t c).length + _ ≤ _
      rw [List.length_append, longEs_length]; omega

def St3.start (t : Nat) (c : List (Int × Cv)) : St3 := ⟨longEs t c, [], t + 3 * c.length⟩

theorem display {pos : Pos} {c0 last : List (Int × Cv)} {cs : List (List (Int × Cv))} {s : Shared} {Q : Value → Shared → Prop} (hsys : sysModules < s.heap.objs.size) (h0 : c0.length = 17) (hc : ∀ c ∈ cs, c.length = 17) (hl : last.length ≤ 15) (hl0 : last ≠ [])
    (hn : ((c0 ++ cs.flatten ++ last).map (·.1)).Nodup) (hz : c0.length + cs.flatten.length + last.length ≤ sizeLine)
    (hQ : ∀ y : St3, y = (cs.foldl St3.chunk (St3.start s.toks c0)).last last → Q (.ref s.heap.objs.size) { s with heap := ext s.heap y.objs, toks := y.t }) :
    wpAny (model prog w) A (dictDisplay ((c0 ++ cs.flatten ++ last).map (itm pos))) Q E s := by
  have hn' : ((c0 ++ cs.flatten ++ last).map fun p => some p.1).Nodup := nodup_some.mpr hn
  unfold dictDisplay
  dsimp only
  rw [List.map_append, List.map_append, List.append_assoc]
  refine wpAny_bind ?_
  have key : ∀ f : Stp, Feeds pos f → wpAny (model prog w) A (forIn (c0.map (itm pos) ++ (cs.flatten.map (itm pos) ++ last.map (itm pos))) (none, []) f)
      (fun r s' => wpAny (model prog w) A (do match ← flush r.2 r.1 with | some d => pure (Value.ref d) | none => newDict) Q E s') E s := fun f hf => by
    rw [gather17 hf _ c0 h0]
    simp only [List.map_append] at hn'
    refine wpAny_bind ?_
    unfold flush
    rw [if_neg (by cases c0 with | nil => cases h0 | cons a b => simp)]
    refine wpAny_bind (sub_long (h := s.heap) (os := []) (ext_nil _).symm (by omega) (by rw [sizeLine_eq]; omega) ?_ (wpAny_pure ?_))
    · have := (List.nodup_append.mp (List.nodup_append.mp hn').1).1
      exact nodup_some.mp this
    · rw [List.length_nil, Nat.add_zero]
      have e17 : (longEs s.toks c0).length = c0.length := longEs_length _ _
      refine chunks_loop hf hsys _ cs (St3.start s.toks c0) _ hc ?_ rfl ?_ (intEs_long _ _) ?_ ?_ (fun y hy h1 h2 => ?_)
      · show ext s.heap _ = ext s.heap _
        simp [St3.objs, St3.start, e17]
      · intro q
        have : (longEs s.toks c0).length = 0 := by show (St3.start s.toks c0).es.length = 0; rw [q]; rfl
        omega
      · show ((longEs s.toks c0).map keyOf ++ _).Nodup
        rw [keys_long]; exact (List.nodup_append.mp hn').1
      · show (longEs s.toks c0).length + _ ≤ _
        rw [e17]; omega
      · have g := gather hf [] last (some s.heap.objs.size) [] (by simp; omega)
        rw [List.append_nil] at g
        rw [g, List.forIn_nil]
        refine wpAny_pure ?_
        have hyes : y.es.map keyOf = c0.map (fun p => some p.1) ++ cs.flatten.map (fun p => some p.1) ∧ y.es.length = c0.length + cs.flatten.length := by
          have gen : ∀ (cs : List (List (Int × Cv))) (x : St3), (cs.foldl St3.chunk x).es.map keyOf = x.es.map keyOf ++ cs.flatten.map (fun p => some p.1) ∧ (cs.foldl St3.chunk x).es.length = x.es.length + cs.flatten.length := by
            intro cs
            induction cs with
            | nil => intro x; simp
            | cons c cs ih =>
              intro x
              rw [List.foldl_cons]
              obtain ⟨i1, i2⟩ := ih (x.chunk c)
              constructor
              · rw [i1]; show (x.es ++ longEs x.t c).map keyOf ++ _ = _
                rw [List.map_append, keys_long, List.flatten_cons, List.map_append, List.append_assoc]
              · rw [i2]; show (x.es ++ longEs x.t c).length + _ = _
                rw [List.length_append, longEs_length, List.flatten_cons, List.length_append]; omega
          have := gen cs (St3.start s.toks c0)
          rw [← hy] at this
          refine ⟨this.1.trans ?_, this.2.trans ?_⟩
          · show (longEs s.toks c0).map keyOf ++ _ = _
            rw [keys_long]
          · show (longEs s.toks c0).length + _ = _
            rw [e17]
        refine wpAny_bind (flush_last (h := s.heap) (x := y) rfl rfl hsys h2 hl hl0 h1 ?_ ?_ ?_)
        · rw [hyes.1]; exact hn'
        · rw [hyes.2]; omega
        · exact wpAny_pure (hQ _ (by rw [hy]))
  refine wpAny_mono (key _ ⟨fun p main run h => ?_, fun p main run h => ?_⟩) (fun r s' hr => ?_) (fun _ _ q => q)
  · have hne : ((run ++ [(kT p, vT pos p)]).length == 17) = false := by simp; omega
    simp only [hne, Bool.false_eq_true, if_false]
  · have hne : ((run ++ [(kT p, vT pos p)]).length == 17) = true := by simp; omega
    simp only [hne, if_true]
    cases main <;> rfl
  · exact hr
end
end Mine

end
noncomputable section
open PySem PySem.W PyProof.Rows
set_option Elab.async false
namespace Mine

def nd : Step → Bool
  | .halt (.done _) _ => true
  | _ => false
theorem nd_ne {x : Step} {f : Flow} {s' : Shared} (h : x = .halt (.done f) s') (hx : nd x = false) : False := by
  subst h; exact Bool.noConfusion hx

theorem step_done {den : Code → Sem Fin} {p : Program} {w : World} {s s' : Shared} {t : Thread} {f : Flow} (h : step den p w s t = .halt (.done f) s') : through t = true ∧ s = s' := by
  obtain ⟨heap, gens, drawn, toks, os⟩ := s
  obtain ⟨cur, code, pos, stack⟩ := t
  cases cur with
  | pure x =>
    cases x with
    | again c => exact (nd_ne h rfl).elim
    | done g =>
      cases stack with
      | nil =>
        have h' : (if leftWithCleanup gens = true then Step.halt (.unsupported "lifetime:generator-with-cleanup-left-suspended") ⟨heap, gens, drawn, toks, os⟩ else Step.halt (.done g) ⟨heap, gens, drawn, toks, os⟩) = .halt (.done f) s' := h
        by_cases c : leftWithCleanup gens = true
        · rw [if_pos c] at h'; exact (nd_ne h' rfl).elim
        · rw [if_neg c] at h'; injection h' with _ h2; exact ⟨rfl, h2⟩
      | cons fr rest => cases fr <;> exact (nd_ne h rfl).elim
  | raise e =>
    cases stack with
    | nil =>
      have h' : (if leftWithCleanup gens = true then Step.halt (.unsupported "lifetime:generator-with-cleanup-left-suspended") ⟨heap, gens, drawn, toks, os⟩ else Step.halt (.uncaught e) ⟨heap, gens, drawn, toks, os⟩) = .halt (.done f) s' := h
      by_cases c : leftWithCleanup gens = true
      · rw [if_pos c] at h'; exact (nd_ne h' rfl).elim
      · rw [if_neg c] at h'; exact (nd_ne h' rfl).elim
    | cons fr rest => cases fr <;> exact (nd_ne h rfl).elim
  | finish e =>
    have h' : (if leftWithCleanup gens = true then Step.halt (.unsupported "lifetime:generator-with-cleanup-left-suspended") ⟨heap, gens, drawn, toks, os⟩ else Step.halt (.ended e) ⟨heap, gens, drawn, toks, os⟩) = .halt (.done f) s' := h
    by_cases c : leftWithCleanup gens = true
    · rw [if_pos c] at h'; exact (nd_ne h' rfl).elim
    · rw [if_neg c] at h'; exact (nd_ne h' rfl).elim
  | load a y k =>
    unfold step at h; dsimp only at h
    generalize heap.get? a = o at h
    cases o <;> exact (nd_ne h rfl).elim
  | update a y g k =>
    unfold step at h; dsimp only at h
    by_cases c : (heap.get? a).isSome = true
    · rw [if_pos c] at h; exact (nd_ne h rfl).elim
    · rw [if_neg c] at h; exact (nd_ne h rfl).elim
  | choose src n k =>
    unfold step at h; dsimp only at h
    by_cases c : n = 0
    · rw [if_pos c] at h; exact (nd_ne h rfl).elim
    · rw [if_neg c] at h; exact (nd_ne h rfl).elim
  | genState g k =>
    unfold step at h; dsimp only at h
    generalize gens[g]? = o at h
    cases o <;> exact (nd_ne h rfl).elim
  | resume g r l k =>
    unfold step at h; dsimp only at h
    generalize gens[g]? = o at h
    cases o with
    | none => exact (nd_ne h rfl).elim
    | some y =>
      cases y with
      | fresh c =>
        cases r with
        | send v => cases v <;> exact (nd_ne h rfl).elim
        | throw e => exact (nd_ne h rfl).elim
      | _ => exact (nd_ne h rfl).elim
  | yield v g0 l kk =>
    unfold step at h; dsimp only at h
    generalize splitAtGen stack = o at h
    cases o <;> exact (nd_ne h rfl).elim
  | _ => exact (nd_ne h rfl).elim

theorem runs_through {p : Program} {w : World} : ∀ (n : Nat) (s : Shared) (t : Thread) (f : Flow) (s' : Shared), s.asleep → (∀ k s₁ t₁, runN (denote table) p w k s t = .running s₁ t₁ → t₁.calm = true) →
    runN (denote table) p w n s t = .halted (.done f) s' → ∃ m t₁, schedN (denote table) p w m (.single s t) = .running (.single s' t₁) ∧ through t₁ = true
  | 0, _, _, _, _, _, _, h => by cases h
  | n + 1, s, t, f, s', hz, hc, h => by
    simp only [runN] at h
    cases hs : step (denote table) p w s t with
    | halt o s₁ =>
      rw [hs] at h
      injection h with h1 h2
      subst h1; subst h2
      obtain ⟨a, rfl⟩ := step_done hs
      exact ⟨0, t, rfl, a⟩
    | go s₁ t₁ =>
      rw [hs] at h
      have hl := step_life (denote table) p w s s₁ t t₁ hs
      obtain ⟨m, t₂, hm, ht⟩ := runs_through n s₁ t₁ f s' (Shared.asleep_of_life hl hz) (fun k s₂ t₂ hk => hc (k + 1) s₂ t₂ (by simp only [runN, hs]; exact hk)) h
      have e : sstep (denote table) p w (.single s t) = .go (.single s₁ t₁) := by
        rcases sstep_single (denote table) p w s t (hc 0 s t rfl) hz with e | e
        · rw [e, hs]; rfl
        · rw [hs] at e; cases e
      exact ⟨m + 1, t₂, by simp only [schedN, e]; exact hm, ht⟩

abbrev G0 : Ctx := ⟨.builtin "claim.caller" {}, none, none, [], none⟩

theorem top_runs {p : Program} {w : World} {t : Sem Fin} {s s₁ : Shared} {v : Value} (hz : s.asleep) (hg : s₁.gens = #[])
    (h : Sem.wp (model p w) G0 t (fun fin _ s' => fin = .done (.ret v) ∧ s' = s₁) (fun _ _ _ => False) default s) :
    ∃ n t₁, schedN (denote table) p w n (.single s ⟨t, .builtin "claim.caller" {}, default, []⟩) = .running (.single s₁ t₁) ∧ through t₁ = true := by
  have h' : Sem.wp (model p w) ⟨.builtin "claim.caller" {}, none, none, [], none⟩ t (Sem.finPost (model p w) ⟨.builtin "claim.caller" {}, none, none, [], none⟩ fun r s' => (r = .ok (.ret v) ∧ s' = s₁) ∧ leftWithCleanup s'.gens = false)
        (fun e _ s' => ((.error e : Result) = .ok (.ret v) ∧ s' = s₁) ∧ leftWithCleanup s'.gens = false) default s := by
    refine Sem.wp_mono _ _ _ ?_ ?_ _ _ h
    · rintro fin q s' ⟨rfl, rfl⟩
      exact ⟨⟨rfl, rfl⟩, by rw [hg]; simp [leftWithCleanup]⟩
    · intro e q s' hf; exact hf.elim
  obtain ⟨n, r, s', hn, rfl, rfl⟩ := (wp_iff_halts (M := model p w) t _ _ _).mp h'
  obtain ⟨s'', h1, h2, hc⟩ := runNI_real (model p w).den (model p w).prog (model p w).w hn (outcomeOf_ends _)
  obtain rfl := Shared.eq_of_forget_eq h2 hg
  exact runs_through n s _ (.ret v) s'' hz hc h1

theorem execs_append (env : Env) : ∀ (a b : List Stmt), execs (a ++ b) env = (execs a env >>= fun f => match f with | .next => execs b env | f => pure f)
  | [], b => by rw [List.nil_append, execs, pure_bind]
  | s :: a, b => by
    rw [List.cons_append, execs, execs, bind_assoc]
    congr 1
    funext f
    cases f <;> simp [execs_append env a b]

section
variable {prog : Program} {w : World} {Γ : Ctx} {α β : Type}
theorem bs_then {n : Nat} {t : Sem α} {f : α → Sem β} {Q : β → Pos → Shared → Prop} {E : Value → Pos → Shared → Prop} {p p' : Pos} {s s' : SharedT} {a : α} (h : bs prog w.params n t Γ p s = some (.ok a, p', s'))
    (k : Sem.wp (model prog w) Γ (f a) Q E p' s'.abs) : Sem.wp (model prog w) Γ (t >>= f) Q E p s.abs := by
  rw [Sem.wp_bind']
  refine Sem.wp_mono _ _ _ ?_ ?_ _ _ (bs_sound h)
  · rintro b q x ⟨hb, rfl, rfl⟩
    cases hb; exact k
  · rintro b q x ⟨hb, _, _⟩; cases hb
theorem any_then {A : Around} {t : Sem α} {f : α → Sem β} {Q : β → Pos → Shared → Prop} {E : Value → Pos → Shared → Prop} {p : Pos} {s : Shared} (hΓ : Γ.In A)
    (h : wpAny (model prog w) A t (fun a s' => ∀ p', Sem.wp (model prog w) Γ (f a) Q E p' s') (fun _ _ => False) s) : Sem.wp (model prog w) Γ (t >>= f) Q E p s := by
  rw [Sem.wp_bind']
  refine Sem.wp_mono _ _ _ ?_ ?_ _ _ (h Γ p hΓ)
  · intro b q x hb; exact hb q
  · intro b q x hb; exact hb.elim
end
end Mine

end
noncomputable section
open PySem PySem.W PyProof.Rows
set_option Elab.async false
namespace Mine
def constPairs : List (Option Expr) → List Expr → Option (List (Int × Cv))
  | [], [] => some []
  | some (.Constant (.int k) _ _) :: ks, .Constant (.str v) _ _ :: vs => match constPairs ks vs with
    | some r => some ((k, .s v) :: r)
    | none => none
  | some (.Constant (.int k) _ _) :: ks, .Constant (.int v) _ _ :: vs => match constPairs ks vs with
    | some r => some ((k, .i v) :: r)
    | none => none
  | _, _ => none
theorem zip_of {env : Env} {pos : Pos} : ∀ {ks : List (Option Expr)} {vs : List Expr} {l : List (Int × Cv)}, constPairs ks vs = some l →
    (evalEachOpt ks env).zip ((evalEach vs env).map fun v => (do let x ← v; standAt pos; pure x : Sem Value)) = l.map (itm pos) := by
  intro ks
  induction ks with
  | nil =>
    intro vs l h
    cases vs with
    | nil => simp only [constPairs, Option.some.injEq] at h; subst h; rfl
    | cons v vs => simp [constPairs] at h
  | cons k ks ih =>
    intro vs l h
    unfold constPairs at h
    split at h
    · rename_i q; cases q
    · rename_i heq
      injection heq with i1 i2
      subst i1; subst i2
      split at h
      · rename_i x r
        simp only [Option.some.injEq] at h
        subst h
        rw [List.map_cons, ← ih r]
        rfl
      · cases h
    · rename_i heq
      injection heq with i1 i2
      subst i1; subst i2
      split at h
      · rename_i x r
        simp only [Option.some.injEq] at h
        subst h
        rw [List.map_cons, ← ih r]
        rfl
      · cases h
    · cases h
def rising : List (Int × Cv) → Bool
  | a :: b :: r => decide (a.1 < b.1) && rising (b :: r)
  | _ => true
theorem rising_lt : ∀ {l : List (Int × Cv)}, rising l = true → (l.map (·.1)).Pairwise (· < ·)
  | [], _ => .nil
  | [a], _ => by simp
  | a :: b :: r, h => by
    simp only [rising, Bool.and_eq_true, decide_eq_true_eq] at h
    have ih := rising_lt h.2
    rw [List.map_cons, List.pairwise_cons]
    refine ⟨fun x hx => ?_, ih⟩
    rw [List.map_cons] at hx ih
    rcases List.mem_cons.mp hx with rfl | hx
    · exact h.1
    · exact Int.lt_trans h.1 ((List.pairwise_cons.mp ih).1 x hx)
theorem rising_nodup {l : List (Int × Cv)} (h : rising l = true) : (l.map (·.1)).Nodup := (rising_lt h).imp (fun h => Int.ne_of_lt h)

def nextOr (r : Sem Flow) : Flow → Sem Flow
  | .next => r
  | f => pure f

def A1 : Around := { handled := none, depth := 100000, frames := none, guards := none, units := 100000 }

section
variable {prog : Program} {w : World} {Γ : Ctx}
theorem execs_then {n : Nat} {a b : List Stmt} {env : Env} {Q : Flow → Pos → Shared → Prop} {E : Value → Pos → Shared → Prop} {p p' : Pos} {s s' : SharedT}
    (h : bs prog w.params n (execsQ a env) Γ p s = some (.ok .next, p', s')) (k : Sem.wp (model prog w) Γ (execs b env) Q E p' s'.abs) : Sem.wp (model prog w) Γ (execs (a ++ b) env) Q E p s.abs := by
  rw [execs_append]
  have h' : bs prog w.params n (execs a env) Γ p s = some (.ok .next, p', s') := by rw [execsQ_eq]; exact h
  exact bs_then h' k

theorem dict_any {ks : List (Option Expr)} {vs : List Expr} {pos : Pos} {env : Env} {l c0 last : List (Int × Cv)} {cs : List (List (Int × Cv))} {A : Around} {Q : Value → Shared → Prop} {E : Value → Shared → Prop} {s s' : Shared} {a : Addr} (hp : constPairs ks vs = some l)
    (hl : l = c0 ++ cs.flatten ++ last) (h0 : c0.length = 17) (hc : ∀ c ∈ cs, c.length = 17) (hlast : last.length ≤ 15) (hl0 : last ≠ []) (hr : rising l = true) (hz : l.length ≤ sizeLine) (hsys : sysModules < s.heap.objs.size) (ha : a = s.heap.objs.size) (hs' : s' = { s with heap := ext s.heap ((cs.foldl St3.chunk (St3.start s.toks c0)).last last).objs, toks := ((cs.foldl St3.chunk (St3.start s.toks c0)).last last).t }) (h : Q (.ref a) s') :
    wpAny (model prog w) A (eval (.Dict ks vs pos) env) Q E s := by
  subst ha
  subst hs'
  rw [arm_eval_Dict, zip_of hp]
  refine wpAny_bind (wpAny_standAt ?_)
  have hn := rising_nodup hr
  subst hl
  refine display hsys h0 hc hlast hl0 hn (by rw [List.length_append, List.length_append] at hz; exact hz) (fun y hy => ?_)
  subst hy; exact h

theorem execs_dict {st : Stmt} {rest : List Stmt} {env : Env} {sp dp : Pos} {ks : List (Option Expr)} {vs : List Expr} {k : Value → Sem Flow} {n : Nat} {v : Value} {A : Around} (hΓ : Γ.In A) {s : Shared} {s₁ s₂ : SharedT} {p₂ : Pos} {E : Value → Pos → Shared → Prop} {p : Pos}
    (he : exec st env = (standAt sp >>= fun _ => eval (.Dict ks vs dp) env >>= fun v => k v))
    (hd : ∀ (Q : Value → Shared → Prop) (E : Value → Shared → Prop), Q v s₁.abs → wpAny (model prog w) A (eval (.Dict ks vs dp) env) Q E s)
    (hb : ∀ p, bs prog w.params n (k v >>= nextOr (execsQ rest env)) Γ p s₁ = some (.ok .next, p₂, s₂)) :
    Sem.wp (model prog w) Γ (execs ([st] ++ rest) env) (fun f _ s => f = .next ∧ s = s₂.abs) E p s := by
  have e : execs ([st] ++ rest) env = (exec st env >>= nextOr (execs rest env)) := by
    show execs (st :: rest) env = _
    rw [execs]
    congr 1
  rw [e, he, bind_assoc, Sem.wp_bind']
  show Sem.wp _ _ ((eval (.Dict ks vs dp) env >>= fun v => k v) >>= _) _ _ sp s
  rw [bind_assoc]
  refine any_then hΓ (hd _ _ fun p' => ?_)
  have z := bs_sound (hb p')
  rw [← execsQ_eq] at z
  refine Sem.wp_mono _ _ _ ?_ ?_ _ _ z
  · rintro a q x ⟨ha, _, rfl⟩
    cases ha; exact ⟨rfl, rfl⟩
  · rintro a q x ⟨ha, _, _⟩; cases ha

theorem top_gen {n : Nat} {c : Value} {fr : Addr} {p₀ p₁ p₂ : Pos} {s₀ s₁ s₂ s₃ : SharedT} {env : Env} {Γ₁ : Ctx} (henv : env = { scope := prog.main.scope, locals := mainNs, globals := mainNs, cells := [], code := c, frame := some fr }) (hp₀ : p₀ = default)
    (hpre : bs prog w.params n (do let code ← moduleCode prog.main; let frame ← newBodyFrame code mainNs mainNs; pure (code, frame)) G0 p₀ s₀ = some (.ok (c, fr), p₁, s₁)) (hΓ : Γ₁ = G0.enter (.body (behindTheImports prog) env) none p₁)
    (hblk : bs prog w.params n (blockStart (behindTheImports prog) env) Γ₁ p₁ s₁ = some (.ok (), p₂, s₂))
    (hbody : Sem.wp (model prog w) Γ₁ (execs (behindTheImports prog) env) (fun f _ s => f = .next ∧ s = s₃.abs) (fun _ _ _ => False) p₂ s₂.abs) :
    Sem.wp (model prog w) G0 (topStub prog).cur (fun fin _ s' => fin = .done (.ret .none) ∧ s' = s₃.abs) (fun _ _ _ => False) default s₀.abs := by
  subst hp₀
  have e : (topStub prog).cur = ((do let code ← moduleCode prog.main; let frame ← newBodyFrame code mainNs mainNs; pure (code, frame) : Sem (Value × Addr)) >>= fun x => run (.body (behindTheImports prog) { scope := prog.main.scope, locals := mainNs, globals := mainNs, cells := [], code := x.1, frame := some x.2 }) >>= fun _ => ret .none) := by
    unfold topStub
    simp only [bind_assoc, pure_bind]
  rw [e]
  refine bs_then hpre ?_
  subst henv
  subst hΓ
  rw [Sem.wp_bind', Sem.wp_run, wpCode_iff_wp]
  show Sem.wp (model prog w) _ (do blockStart (behindTheImports prog) _; return (.done (← (execs (behindTheImports prog) _).onRaise (leaving _)) : PySem.Fin)) _ _ _ _
  refine bs_then hblk ?_
  rw [Sem.wp_bind', Sem.wp_onRaise]
  refine Sem.wp_mono _ _ _ ?_ ?_ _ _ hbody
  · rintro f q x ⟨rfl, rfl⟩
    exact ⟨rfl, rfl⟩
  · intro a q x hx; exact hx.elim
end
end Mine

end
noncomputable section
open PySem PySem.W PyProof.Rows
set_option Elab.async false
namespace Mine
theorem head_gen {prog : Program} {w : World} {n : Nat} {c : Value} {fr : Addr} {env : Env} {Γ₁ : Ctx} {pA pB pC pF : Pos} {s₀ sP sA sB sC sD sF : SharedT} {stA stB stC rest : List Stmt} {st : Stmt} {sp dp : Pos} {ks : List (Option Expr)} {vs : List Expr} {k : Value → Sem Flow} {l c0 last : List (Int × Cv)} {cs : List (List (Int × Cv))} {a : Addr}
    (henv : env = { scope := prog.main.scope, locals := mainNs, globals := mainNs, cells := [], code := c, frame := some fr })
    (hΓ : Γ₁ = G0.enter (.body (behindTheImports prog) env) none ⟨0, 0, 0, 0⟩) (hIn : Γ₁.In A1)
    (hpre : bs prog w.params n (do let code ← moduleCode prog.main; let frame ← newBodyFrame code mainNs mainNs; pure (code, frame)) G0 ⟨0, 0, 0, 0⟩ s₀ = some (.ok (c, fr), ⟨0, 0, 0, 0⟩, sP))
    (hblk : bs prog w.params n (blockStart (behindTheImports prog) env) Γ₁ ⟨0, 0, 0, 0⟩ sP = some (.ok (), ⟨0, 0, 0, 0⟩, sP))
    (hbody : behindTheImports prog = stA ++ (stB ++ (stC ++ ([st] ++ rest))))
    (hA : bs prog w.params n (execsQ stA env) Γ₁ ⟨0, 0, 0, 0⟩ sP = some (.ok .next, pA, sA))
    (hB : bs prog w.params n (execsQ stB env) Γ₁ pA sA = some (.ok .next, pB, sB))
    (hC : bs prog w.params n (execsQ stC env) Γ₁ pB sB = some (.ok .next, pC, sC))
    (he : exec st env = (standAt sp >>= fun _ => eval (.Dict ks vs dp) env >>= fun v => k v))
    (hp : constPairs ks vs = some l) (hl : l = c0 ++ cs.flatten ++ last) (h0 : c0.length = 17) (hc : ∀ c ∈ cs, c.length = 17) (hlast : last.length ≤ 15) (hl0 : last ≠ []) (hr : rising l = true) (hz : l.length ≤ sizeLine)
    (hsys : sysModules < sC.abs.heap.objs.size) (ha : a = sC.abs.heap.objs.size)
    (hs' : sD.abs = { sC.abs with heap := ext sC.abs.heap ((cs.foldl St3.chunk (St3.start sC.abs.toks c0)).last last).objs, toks := ((cs.foldl St3.chunk (St3.start sC.abs.toks c0)).last last).t })
    (hD : ∀ p, bs prog w.params n (k (.ref a) >>= nextOr (execsQ rest env)) Γ₁ p sD = some (.ok .next, pF, sF))
    (hz0 : s₀.abs.asleep) (hg : sF.gens = #[]) :
    ∃ m t₁, schedN (denote table) prog w m (.single s₀.abs (topStub prog)) = .running (.single sF.abs t₁) ∧ through t₁ = true := by
  have body : Sem.wp (model prog w) Γ₁ (execs (behindTheImports prog) env) (fun f _ s => f = .next ∧ s = sF.abs) (fun _ _ _ => False) ⟨0, 0, 0, 0⟩ sP.abs := by
    rw [hbody]
    exact execs_then hA (execs_then hB (execs_then hC (execs_dict hIn he (fun Q E h => dict_any hp hl h0 hc hlast hl0 hr hz hsys ha hs' h) hD)))
  exact top_runs (s₁ := sF.abs) hz0 hg (top_gen henv rfl hpre hΓ hblk body)
end Mine

end
noncomputable section
open PySem PySem.W PyProof.Rows
set_option Elab.async false
namespace Mine

/-- what a look at the two heaps must show -/
structure Looks0 (p : Program) (h₀ h₁ : Heap) : Prop where
  nsM : h₁.isNs mainGlobals = true
  nsB : h₁.isNs builtinsNs = true
  nsM0 : h₀.isNs mainGlobals = true
  acc : h₁.accountedOkI (importedModules p.main.body) = true
  stat : staticsOk (importedModules p.main.body) h₀ h₁ = true
  names : namesBound p h₁ = true
  laid : laidKept h₀ h₁ = true
  bmain : h₁.bmainOk = true
  blt : h₁.bltView = bltViewBooted
  old : ∀ b o, h₀.get? b = some o → ¬ theTopsOwn h₀ b → h₁.get? b = some o

theorem topRan_of {p : Program} {w : World} {s₀ s₁ : Shared} (hr : ∃ m t₁, schedN (denote table) p w m (.single s₀ (topStub p)) = .running (.single s₁ t₁) ∧ through t₁ = true)
    (hl : s₁.heap.life = s₀.heap.life) (hos : s₁.os = s₀.os) (hg : s₁.gens = #[]) (L : Looks0 p s₀.heap s₁.heap) : TopRan p w s₀ s₁ := by
  refine ⟨hr, hl, Shared.rest_eq hos, L.old, Heap.accountedI_of_ok L.acc, statics_of_ok L.stat, Pin.keysAreStrs_of L.nsM,
    fun x hx => (Pin.builtinOf_eq L.nsB x).trans (Heap.of_bltView L.nsB L.blt x hx), ?_, fun g hgm => by rw [hg] at hgm; simp at hgm, names_of_bound L.names, laid_of_kept L.laid⟩
  obtain ⟨bm, ob, a, _, c, d, f, _⟩ := Heap.bmainOk_spec L.bmain
  exact ⟨bm, ob, (Pin.globalOf_eq L.nsM _).trans a, c, d, f⟩

/-- the script as values from a place of tokens on -/
def intVals : Nat → List Int → List Value
  | _, [] => []
  | t, n :: ns => .int n t :: intVals (t + 1) ns
theorem lay_intsW {R : WRecords} {cl : Str → Option Addr} {P : Params} {ord : List DictEntry → List DictEntry} : ∀ (ns : List Int) (s : Shared), layAllW R cl P ord (ns.map WData.int) s = some (intVals s.toks ns, { s with toks := s.toks + ns.length })
  | [], s => by simp [layAllW, intVals]
  | n :: ns, s => by
    simp only [List.map_cons, layAllW, layW, lay_intsW ns, intVals, List.length_cons]
    simp only [Nat.add_assoc, Nat.add_comm 1]

def scriptState (s : Shared) (ns : List Int) : Shared := { s with heap := s.heap.push { cls := .type "list", data := .seq (intVals s.toks ns).toArray }, toks := s.toks + ns.length }

theorem ints_of {R : WRecords} : ∀ {ds : List WData}, WShape.hasItems R ds .int = true → ∃ ns : List Int, ds = ns.map WData.int
  | [], _ => ⟨[], rfl⟩
  | d :: ds, h => by
    simp only [WShape.hasItems, Bool.and_eq_true] at h
    obtain ⟨ns, hn⟩ := ints_of h.2
    obtain ⟨i, rfl⟩ := hasW_int h.1
    exact ⟨i :: ns, by rw [hn]; rfl⟩

theorem args_of {l : OpenLaw} {args : List WData} (hm : l.most = some 63) (hb : l.bound = none) (h : l.row.toRowW.claim.pre args = true) : ∃ ns : List Int, args = [.list (ns.map WData.int)] ∧ ns.length ≤ 63 := by
  obtain ⟨h1, h2⟩ := pre_splitW h
  obtain ⟨d, r, rfl, hd, hr⟩ := hasAllW_cons h1
  have hr' : r = [] := by
    cases r with
    | nil => rfl
    | cons a b => simp [WShape.hasAll] at hr
  subst hr'
  obtain ⟨ds, rfl, hds⟩ := hasW_list hd
  obtain ⟨ns, rfl⟩ := ints_of hds
  refine ⟨ns, rfl, ?_⟩
  have h3 : l.pre.holds [] { args := [.list (ns.map WData.int)] } = true := h2
  unfold OpenLaw.pre at h3
  rw [hm, hb] at h3
  have h4 := (holds_andW h3).1
  simp only [WTm.holds, WTm.value] at h4
  by_cases q : ns.length ≤ 63
  · exact q
  · exfalso
    simp at h4
    have e : less? (WData.int 63) (WData.int (ns.length : Int)) = some true := by
      have : (63 : Int) < ns.length := by omega
      simp [less?, Num.less?, this]
    rw [e] at h4
    simp at h4

structure CallOk (prog : Program) (w : World) (f : Value) (s : Shared) : Prop where
  call : ∀ ns : List Int, ns.length ≤ 63 → WData.layableAll [.list (ns.map WData.int)] = true →
    wpAny (model prog w) callerA (call f [.ref s.heap.objs.size]) (fun v s' => v = .bool true ∧ (∀ b o, (scriptState s ns).heap.get? b = some o → s'.heap.get? b = some o) ∧ s'.os = s.os ∧ s'.gens = #[]) (fun _ _ => False) (scriptState s ns)

theorem post_true {l : OpenLaw} {args ds : List WData} : l.row.toRowW.claim.post args (.bool true) ds = true := by
  simp [RowW.claim, WShape.has, WShape.arms, OpenLaw.row, WTm.holds, WTm.value, same]

theorem law_gen {l : OpenLaw} {f : World → Value} {S0 SF : World → OsState → SharedT} (hm : l.most = some 63) (hbd : l.bound = none) (hwr : l.writes = false) (said : l.row.wellSaid = true) (hprom : l.row.toRowW.promised) (hb : l.prog.bare) (ho : opensWell l.prog = true)
    (hopen : opening l.prog = plainProg l.prog.main.scope.names) (hf : ∀ s, fenceModules? l.prog s = some s)
    (hS0 : ∀ w os, (S0 w os).abs = ⟨boot_heap w.params, #[], boot_drawn, boot_toks, os⟩)
    (htop : ∀ w os, ∃ m t₁, schedN (denote table) l.prog w m (.single (S0 w os).abs (topStub l.prog)) = .running (.single (SF w os).abs t₁) ∧ through t₁ = true)
    (hlife : ∀ w os, (SF w os).abs.heap.life = (S0 w os).abs.heap.life) (hasl : ∀ w os, (SF w os).abs.asleep) (hos : ∀ w os, (SF w os).abs.os = (S0 w os).abs.os) (hg : ∀ w os, (SF w os).abs.gens = #[])
    (hlook : ∀ w os, Looks0 l.prog (S0 w os).abs.heap (SF w os).abs.heap) (hdef : ∀ w os, isTheDefsW l.prog (SF w os).abs.heap l.name)
    (hfn : ∀ w os, (SF w os).abs.heap.nsMap mainGlobals l.name = some (f w))
    (hcall : ∀ w os, CallOk l.prog w (f w) (SF w os).abs) : l.row.Holds := by
  refine ⟨said, hprom, ⟨⟨hb, ho, rfl⟩, hprom.witness, fun w => ?_⟩⟩
  have h600 := boot_open (p := l.prog) (N := 600) hopen (by decide) hf w
  obtain ⟨s₀, h1, h2⟩ := Option.map_eq_some_iff.mp h600
  unfold fencedOpening at h1
  obtain ⟨s, h4, h5⟩ := Option.bind_eq_some_iff.mp h1
  rw [← table_eq_tree] at h4
  have A := AfterImport.of_importEnds h4
  refine ⟨⟨s, A⟩, fun s' hs' => ?_⟩
  obtain rfl : s' = s := AfterImport.unique hs' A
  have e0 : s₀ = (S0 w s₀.os).abs := by
    rw [hS0]
    simp only [Prod.mk.injEq] at h2
    obtain ⟨q1, q2, q3, q4⟩ := h2
    obtain ⟨a, b, c, d, e⟩ := s₀
    simp only at q1 q2 q3 q4
    subst q1; subst q2; subst q3; subst q4
    rfl
  generalize s₀.os = os at e0
  subst e0
  refine ⟨_, h5, by rw [hS0], (SF w os).abs, topRan_of (htop w os) (hlife w os) (hos w os) (hg w os) (hlook w os), ?_, (fun x hx => (nomatch hx)), (fun x hx => (nomatch hx)), ?_⟩
  · intro n hn
    have : n = l.name := by simpa [OpenLaw.row] using hn
    subst this
    exact hdef w os
  · have e : callStub l.row.toRowW.name = fun vs => (⟨(callStub l.name vs).cur, .builtin "claim.caller" {}, default, []⟩ : Thread) := rfl
    show ClaimW.CallFrom (callStub l.row.toRowW.name) _ w _ _ _ _
    rw [e]
    refine ClaimW.callFrom_of_specG (c := l.row.toRowW.claim) (hasl w os) (hg w os) fun args hpre hlay ord hord => ?_
    obtain ⟨ns, rfl, hlen⟩ := args_of hm hbd hpre
    have hlaid : layAllW l.row.toRowW.claim.records (classAt (SF w os).abs.heap) w.params ord [.list (ns.map WData.int)] (SF w os).abs = some ([.ref (SF w os).abs.heap.objs.size], scriptState (SF w os).abs ns) := by
      simp only [layAllW, layW, lay_intsW, scriptState]
    refine ⟨_, _, hlaid, ?_⟩
    obtain ⟨as, hrd, hin, hold⟩ := reads_layAllW hord _ _ _ hlaid hlay (scriptState (SF w os).abs ns).heap (fun _ _ e => e)
    have keeps := layAllW_keeps _ _ _ hlaid
    have hal := layAllW_rest _ _ _ hlaid
    have L : Laid l.row.toRowW.claim.records w (SF w os).abs (scriptState (SF w os).abs ns) [.list (ns.map WData.int)] [.ref (SF w os).abs.heap.objs.size] as := ⟨⟨ord, hord, hlaid⟩, hrd, hin, hold, keeps, hal.1.trans (hg w os), hal.2.2.1⟩
    have hns : (scriptState (SF w os).abs ns).heap.Ns mainGlobals ((SF w os).abs.heap.nsMap mainGlobals) := (Heap.Ns.of_isNs (hlook w os).nsM).keeps keeps
    refine wpAny_bind (wpAny_nsGet hns ?_)
    rw [hfn w os]
    refine wpAny_bind (wpAny_mono ((hcall w os).call ns hlen hlay) ?_ (fun _ _ h => h.elim))
    rintro v s' ⟨rfl, hk, ho', hg'⟩
    refine wpAny_pure ⟨_, rfl, ?_⟩
    have G : GoodWG l.row.toRowW.claim (classAt (SF w os).abs.heap) (ExcName.means (SF w os).abs.heap) [.list (ns.map WData.int)] (scriptState (SF w os).abs ns) (.ok (.ret (.bool true))) s' :=
      GoodW.toG ⟨.inl ⟨_, .bool true, [], rfl, (fun cls => rfl), .bool true, post_true, fun _ => ⟨.nil, fun a ha => nomatch ha⟩⟩, hk, ho', hg'⟩
    have z := G.laid (c := l.row.toRowW.claim) rfl rfl (fun a b => ident_freeW rfl rfl rfl a b) L
    exact ⟨z.1, z.2.1, z.2.2, fun q => by rw [show l.row.writes = l.writes from rfl, hwr] at q; cases q⟩
end Mine

end
noncomputable section
open PySem PySem.W PyProof.Rows Mine
set_option Elab.async false
set_option linter.unusedVariables false
set_option maxRecDepth 100000
namespace L02
noncomputable section

abbrev pw : Program := PySem.Challenge.pw_nb0274_02
def kE (P : Params) (x : String) (t : Nat) (v : Value) : DictEntry := ⟨PyData.keyHash P (.ofString x), .str (.ofString x) t, v⟩
def noArgs : Arguments := ⟨[], [], none, [], [], none, []⟩
def noScope : Scope := { kind := .function, names := [], isGenerator := false, isCoroutine := false, more := [] }
def sArgs : Stmt → Arguments
  | .FunctionDef _ a _ _ _ _ _ _ _ _ => a
  | _ => noArgs
def sBody : Stmt → List Stmt
  | .FunctionDef _ _ b _ _ _ _ _ _ _ => b
  | _ => []
def sScope : Stmt → Scope
  | .FunctionDef _ _ _ _ _ _ s _ _ _ => s
  | _ => noScope
def dT (i : Nat) : Stmt := pw.main.body.getD i (.Pass ⟨0, 0, 0, 0⟩)
def dC (i j : Nat) : Stmt := match pw.main.body.getD i (.Pass ⟨0, 0, 0, 0⟩) with
  | .ClassDef _ _ _ b _ _ _ _ _ _ _ => b.getD j (.Pass ⟨0, 0, 0, 0⟩)
  | _ => .Pass ⟨0, 0, 0, 0⟩
def fD (st : Stmt) (name qual : Str) (globals ncl : Nat) (defaults kwdefaults doc pyModule : Value) (annotations : Option Addr) (code closureTuple : Value) (builtins : Nat) : FuncData :=
  { name, qualname := qual, params := sArgs st, body := .stmts (sBody st), scope := sScope st, globals, closure := [], defaults, kwdefaults, doc, pyModule, annotations, code, closureTuple, builtins }
def pairsOf : Stmt → List (Int × Cv)
  | .Assign _ (.Dict ks vs _) _ => (constPairs ks vs).getD []
  | _ => []
def chunk17 : Nat → List (Int × Cv) → List (List (Int × Cv))
  | 0, _ => []
  | n + 1, l => l.take 17 :: chunk17 n (l.drop 17)

def pairs : List (Int × Cv) := pairsOf (dT 6)
def yD : St3 := ((chunk17 37 (pairs.drop 17)).foldl St3.chunk (St3.start 366 (pairs.take 17))).last (pairs.drop 646)
abbrev T0 (P : Params) : BT := (.node (boot_o_0 P) (.node (boot_o_1 P) (.node (boot_o_3 P) (.node (boot_o_7 P) .nil .nil) .nil) (.node (boot_o_5 P) (.node (boot_o_9 P) .nil .nil) .nil)) (.node (boot_o_2 P) (.node (boot_o_4 P) (.node (boot_o_8 P) .nil .nil) .nil) (.node (boot_o_6 P) (.node (boot_o_10 P) .nil .nil) .nil)))
abbrev S0 (P : Params) (os : OsState) : SharedT := ⟨T0 P, 11, {}, #[], boot_drawn, boot_toks, os⟩
def oP_11 (P : Params) : Obj := ⟨(.type "tuple"), none, (.seq #[] 0), #[]⟩
def oP_12 (P : Params) : Obj := ⟨.none, none, (.fields #[]), #[]⟩
def oP_13 (P : Params) : Obj := ⟨(.type "code"), none, (.fields #[(.str (.ofString "<module>") 182), (.str (.ofString "<module>") 183), (.str (.ofString "/claim/cut.py") 184), (.int 1 0), (.int 0 0), (.int 0 0), (.int 0 0), (.int 0 0), (.ref 11), (.bool false), (.int 181 0), (.ref 12), .none, .none, .none, .none, (.int 185 0), (.int 1 0), (.str (.ofString "/claim/cut.py") 186)]), #[]⟩
def oP_14 (P : Params) : Obj := ⟨(.type "frame"), none, .plain, #[some (.ref 13), some (.ref 3), some (.ref 3), none, some (.str (.ofString "__main__") 164), none, some (.ref 0)]⟩
def TP (P : Params) : BT := (.node (boot_o_0 P) (.node (boot_o_1 P) (.node (boot_o_3 P) (.node (boot_o_7 P) .nil .nil) (.node (oP_11 P) .nil .nil)) (.node (boot_o_5 P) (.node (boot_o_9 P) .nil .nil) (.node (oP_13 P) .nil .nil))) (.node (boot_o_2 P) (.node (boot_o_4 P) (.node (boot_o_8 P) .nil .nil) (.node (oP_12 P) .nil .nil)) (.node (boot_o_6 P) (.node (boot_o_10 P) .nil .nil) (.node (oP_14 P) .nil .nil))))
abbrev SP (P : Params) (os : OsState) : SharedT := ⟨TP P, 15, {}, #[], boot_drawn, 187, os⟩
def oA_3 (P : Params) : Obj := ⟨(.type "dict"), none, (.dict #[(kE P "__name__" 165 (.str (.ofString "cpy313.stringprep") 297)), (kE P "__doc__" 166 .none), (kE P "__package__" 167 .none), (kE P "__loader__" 168 (.builtin "__main__.__loader__#opaque")), (kE P "__spec__" 169 .none), (kE P "__annotations__" 170 (.ref 6)), (kE P "__builtins__" 171 (.ref 4)), (kE P "__file__" 173 (.str (.ofString "/claim/cut.py") 172)), (kE P "__cached__" 174 .none), (kE P "_wall" 193 (.ref 21)), (kE P "Whitespace" 296 (.ref 83))] 11), #[]⟩
def oA_12 (P : Params) : Obj := ⟨.none, none, (.fields #[(.int 1 0), (.int 0 0), (.ref 20), (.int 5 0), (.int 0 0), (.ref 27)]), #[]⟩
def oA_15 (P : Params) : Obj := ⟨(.type "tuple"), none, (.seq #[] 0), #[]⟩
def oA_16 (P : Params) : Obj := ⟨.none, none, (.fields #[]), #[]⟩
def oA_17 (P : Params) : Obj := ⟨(.type "tuple"), none, (.seq #[(.str (.ofString "k") 190)] 0), #[]⟩
def oA_18 (P : Params) : Obj := ⟨(.type "tuple"), none, (.seq #[] 0), #[]⟩
def oA_19 (P : Params) : Obj := ⟨.none, none, (.func (fD (dT 0) (.ofString "_wall") (.ofString "_wall") 0 0 .none .none .none .none none .none .none 0)), #[]⟩
def oA_20 (P : Params) : Obj := ⟨(.type "code"), none, (.fields #[(.str (.ofString "_wall") 187), (.str (.ofString "_wall") 188), (.str (.ofString "/claim/cut.py") 189), (.int 1 0), (.int 1 0), (.int 0 0), (.int 0 0), (.int 3 0), (.ref 15), (.bool true), (.int 181 0), (.ref 16), .none, (.ref 17), (.ref 18), (.ref 19), (.int 191 0), (.int 1 0), (.str (.ofString "/claim/cut.py") 192)]), #[]⟩
def oA_21 (P : Params) : Obj := ⟨(.type "function"), none, (.func (fD (dT 0) (.ofString "_wall") (.ofString "_wall") 3 0 .none .none .none (.str (.ofString "__main__") 164) none (.ref 20) .none 0)), #[]⟩
def oA_22 (P : Params) : Obj := ⟨(.type "tuple"), none, (.seq #[] 0), #[]⟩
def oA_23 (P : Params) : Obj := ⟨(.type "builtin_function_or_method"), none, (.fields #[(.builtin "type.__prepare__"), (.type "type")]), #[]⟩
def oA_24 (P : Params) : Obj := ⟨(.type "dict"), none, (.dict #[(kE P "__module__" 203 (.str (.ofString "cpy313.tabnanny") 194)), (kE P "__qualname__" 205 (.str (.ofString "Whitespace") 204)), (kE P "__firstlineno__" 207 (.int 5 206)), (kE P "S" 211 (.str (.ofString " ") 209)), (kE P "T" 212 (.str (.ofString "\t") 210)), (kE P "__init__" 227 (.ref 38)), (kE P "longest_run_of_spaces" 236 (.ref 45)), (kE P "indent_level" 248 (.ref 52)), (kE P "equal" 256 (.ref 59)), (kE P "not_equal_witness" 267 (.ref 66)), (kE P "less" 275 (.ref 73)), (kE P "not_less_witness" 283 (.ref 80)), (kE P "__static_attributes__" 289 (.ref 81))] 13), #[]⟩
def oA_25 (P : Params) : Obj := ⟨(.type "tuple"), none, (.seq #[] 0), #[]⟩
def oA_26 (P : Params) : Obj := ⟨.none, none, (.fields #[(.int 8 0), (.int 4 0), (.ref 37), (.int 31 0), (.int 4 0), (.ref 44), (.int 35 0), (.int 4 0), (.ref 51), (.int 42 0), (.int 4 0), (.ref 58), (.int 45 0), (.int 4 0), (.ref 65), (.int 53 0), (.int 4 0), (.ref 72), (.int 56 0), (.int 4 0), (.ref 79)]), #[]⟩
def oA_27 (P : Params) : Obj := ⟨(.type "code"), none, (.fields #[(.str (.ofString "Whitespace") 198), (.str (.ofString "Whitespace") 199), (.str (.ofString "/claim/cut.py") 200), (.int 5 0), (.int 0 0), (.int 0 0), (.int 0 0), (.int 0 0), (.ref 25), (.bool false), (.int 181 0), (.ref 26), .none, .none, .none, .none, (.int 201 0), (.int 5 0), (.str (.ofString "/claim/cut.py") 202)]), #[]⟩
def oA_28 (P : Params) : Obj := ⟨(.type "frame"), none, .plain, #[some (.ref 27), some (.ref 3), some (.ref 24), none, some (.str (.ofString "cpy313.tabnanny") 194), none, some (.ref 0)]⟩
def oA_29 (P : Params) : Obj := ⟨(.type "str_ascii_iterator"), none, (.fields #[.none, (.int 2 0)]), #[]⟩
def oA_30 (P : Params) : Obj := ⟨(.type "tuple"), none, (.seq #[] 0), #[]⟩
def oA_31 (P : Params) : Obj := ⟨(.type "StopIteration"), none, (.fields #[(.ref 30), .none, .none, .none, (.bool false), .none]), #[]⟩
def oA_32 (P : Params) : Obj := ⟨(.type "tuple"), none, (.seq #[] 0), #[]⟩
def oA_33 (P : Params) : Obj := ⟨.none, none, (.fields #[]), #[]⟩
def oA_34 (P : Params) : Obj := ⟨(.type "tuple"), none, (.seq #[(.str (.ofString "self") 216), (.str (.ofString "ws") 217), (.str (.ofString "S") 218), (.str (.ofString "T") 219), (.str (.ofString "count") 220), (.str (.ofString "b") 221), (.str (.ofString "n") 222), (.str (.ofString "nt") 223), (.str (.ofString "ch") 224)] 0), #[]⟩
def oA_35 (P : Params) : Obj := ⟨(.type "tuple"), none, (.seq #[] 0), #[]⟩
def oA_36 (P : Params) : Obj := ⟨.none, none, (.func (fD (dC 2 1) (.ofString "__init__") (.ofString "Whitespace.__init__") 0 0 .none .none .none .none none .none .none 0)), #[]⟩
def oA_37 (P : Params) : Obj := ⟨(.type "code"), none, (.fields #[(.str (.ofString "__init__") 213), (.str (.ofString "Whitespace.__init__") 214), (.str (.ofString "/claim/cut.py") 215), (.int 8 0), (.int 2 0), (.int 0 0), (.int 0 0), (.int 3 0), (.ref 32), (.bool true), (.int 181 0), (.ref 33), .none, (.ref 34), (.ref 35), (.ref 36), (.int 225 0), (.int 8 0), (.str (.ofString "/claim/cut.py") 226)]), #[]⟩
def oA_38 (P : Params) : Obj := ⟨(.type "function"), none, (.func (fD (dC 2 1) (.ofString "__init__") (.ofString "Whitespace.__init__") 3 0 .none .none .none (.str (.ofString "cpy313.tabnanny") 194) none (.ref 37) .none 0)), #[]⟩
def oA_39 (P : Params) : Obj := ⟨(.type "tuple"), none, (.seq #[] 0), #[]⟩
def oA_40 (P : Params) : Obj := ⟨.none, none, (.fields #[]), #[]⟩
def oA_41 (P : Params) : Obj := ⟨(.type "tuple"), none, (.seq #[(.str (.ofString "self") 231), (.str (.ofString "count") 232), (.str (.ofString "trailing") 233)] 0), #[]⟩
def oA_42 (P : Params) : Obj := ⟨(.type "tuple"), none, (.seq #[] 0), #[]⟩
def oA_43 (P : Params) : Obj := ⟨.none, none, (.func (fD (dC 2 2) (.ofString "longest_run_of_spaces") (.ofString "Whitespace.longest_run_of_spaces") 0 0 .none .none .none .none none .none .none 0)), #[]⟩
def oA_44 (P : Params) : Obj := ⟨(.type "code"), none, (.fields #[(.str (.ofString "longest_run_of_spaces") 228), (.str (.ofString "Whitespace.longest_run_of_spaces") 229), (.str (.ofString "/claim/cut.py") 230), (.int 31 0), (.int 1 0), (.int 0 0), (.int 0 0), (.int 3 0), (.ref 39), (.bool true), (.int 181 0), (.ref 40), .none, (.ref 41), (.ref 42), (.ref 43), (.int 234 0), (.int 31 0), (.str (.ofString "/claim/cut.py") 235)]), #[]⟩
def oA_45 (P : Params) : Obj := ⟨(.type "function"), none, (.func (fD (dC 2 2) (.ofString "longest_run_of_spaces") (.ofString "Whitespace.longest_run_of_spaces") 3 0 .none .none .none (.str (.ofString "cpy313.tabnanny") 194) none (.ref 44) .none 0)), #[]⟩
def oA_46 (P : Params) : Obj := ⟨(.type "tuple"), none, (.seq #[] 0), #[]⟩
def oA_47 (P : Params) : Obj := ⟨.none, none, (.fields #[]), #[]⟩
def oA_48 (P : Params) : Obj := ⟨(.type "tuple"), none, (.seq #[(.str (.ofString "self") 240), (.str (.ofString "tabsize") 241), (.str (.ofString "count") 242), (.str (.ofString "trailing") 243), (.str (.ofString "il") 244), (.str (.ofString "i") 245)] 0), #[]⟩
def oA_49 (P : Params) : Obj := ⟨(.type "tuple"), none, (.seq #[] 0), #[]⟩
def oA_50 (P : Params) : Obj := ⟨.none, none, (.func (fD (dC 2 3) (.ofString "indent_level") (.ofString "Whitespace.indent_level") 0 0 .none .none .none .none none .none .none 0)), #[]⟩
def oA_51 (P : Params) : Obj := ⟨(.type "code"), none, (.fields #[(.str (.ofString "indent_level") 237), (.str (.ofString "Whitespace.indent_level") 238), (.str (.ofString "/claim/cut.py") 239), (.int 35 0), (.int 2 0), (.int 0 0), (.int 0 0), (.int 3 0), (.ref 46), (.bool true), (.int 181 0), (.ref 47), .none, (.ref 48), (.ref 49), (.ref 50), (.int 246 0), (.int 35 0), (.str (.ofString "/claim/cut.py") 247)]), #[]⟩
def oA_52 (P : Params) : Obj := ⟨(.type "function"), none, (.func (fD (dC 2 3) (.ofString "indent_level") (.ofString "Whitespace.indent_level") 3 0 .none .none .none (.str (.ofString "cpy313.tabnanny") 194) none (.ref 51) .none 0)), #[]⟩
def oA_53 (P : Params) : Obj := ⟨(.type "tuple"), none, (.seq #[] 0), #[]⟩
def oA_54 (P : Params) : Obj := ⟨.none, none, (.fields #[]), #[]⟩
def oA_55 (P : Params) : Obj := ⟨(.type "tuple"), none, (.seq #[(.str (.ofString "self") 252), (.str (.ofString "other") 253)] 0), #[]⟩
def oA_56 (P : Params) : Obj := ⟨(.type "tuple"), none, (.seq #[] 0), #[]⟩
def oA_57 (P : Params) : Obj := ⟨.none, none, (.func (fD (dC 2 4) (.ofString "equal") (.ofString "Whitespace.equal") 0 0 .none .none .none .none none .none .none 0)), #[]⟩
def oA_58 (P : Params) : Obj := ⟨(.type "code"), none, (.fields #[(.str (.ofString "equal") 249), (.str (.ofString "Whitespace.equal") 250), (.str (.ofString "/claim/cut.py") 251), (.int 42 0), (.int 2 0), (.int 0 0), (.int 0 0), (.int 3 0), (.ref 53), (.bool true), (.int 181 0), (.ref 54), .none, (.ref 55), (.ref 56), (.ref 57), (.int 254 0), (.int 42 0), (.str (.ofString "/claim/cut.py") 255)]), #[]⟩
def oA_59 (P : Params) : Obj := ⟨(.type "function"), none, (.func (fD (dC 2 4) (.ofString "equal") (.ofString "Whitespace.equal") 3 0 .none .none .none (.str (.ofString "cpy313.tabnanny") 194) none (.ref 58) .none 0)), #[]⟩
def oA_60 (P : Params) : Obj := ⟨(.type "tuple"), none, (.seq #[] 0), #[]⟩
def oA_61 (P : Params) : Obj := ⟨.none, none, (.fields #[]), #[]⟩
def oA_62 (P : Params) : Obj := ⟨(.type "tuple"), none, (.seq #[(.str (.ofString "self") 260), (.str (.ofString "other") 261), (.str (.ofString "n") 262), (.str (.ofString "a") 263), (.str (.ofString "ts") 264)] 0), #[]⟩
def oA_63 (P : Params) : Obj := ⟨(.type "tuple"), none, (.seq #[] 0), #[]⟩
def oA_64 (P : Params) : Obj := ⟨.none, none, (.func (fD (dC 2 5) (.ofString "not_equal_witness") (.ofString "Whitespace.not_equal_witness") 0 0 .none .none .none .none none .none .none 0)), #[]⟩
def oA_65 (P : Params) : Obj := ⟨(.type "code"), none, (.fields #[(.str (.ofString "not_equal_witness") 257), (.str (.ofString "Whitespace.not_equal_witness") 258), (.str (.ofString "/claim/cut.py") 259), (.int 45 0), (.int 2 0), (.int 0 0), (.int 0 0), (.int 3 0), (.ref 60), (.bool true), (.int 181 0), (.ref 61), .none, (.ref 62), (.ref 63), (.ref 64), (.int 265 0), (.int 45 0), (.str (.ofString "/claim/cut.py") 266)]), #[]⟩
def oA_66 (P : Params) : Obj := ⟨(.type "function"), none, (.func (fD (dC 2 5) (.ofString "not_equal_witness") (.ofString "Whitespace.not_equal_witness") 3 0 .none .none .none (.str (.ofString "cpy313.tabnanny") 194) none (.ref 65) .none 0)), #[]⟩
def oA_67 (P : Params) : Obj := ⟨(.type "tuple"), none, (.seq #[] 0), #[]⟩
def oA_68 (P : Params) : Obj := ⟨.none, none, (.fields #[]), #[]⟩
def oA_69 (P : Params) : Obj := ⟨(.type "tuple"), none, (.seq #[(.str (.ofString "self") 271), (.str (.ofString "other") 272)] 0), #[]⟩
def oA_70 (P : Params) : Obj := ⟨(.type "tuple"), none, (.seq #[] 0), #[]⟩
def oA_71 (P : Params) : Obj := ⟨.none, none, (.func (fD (dC 2 6) (.ofString "less") (.ofString "Whitespace.less") 0 0 .none .none .none .none none .none .none 0)), #[]⟩
def oA_72 (P : Params) : Obj := ⟨(.type "code"), none, (.fields #[(.str (.ofString "less") 268), (.str (.ofString "Whitespace.less") 269), (.str (.ofString "/claim/cut.py") 270), (.int 53 0), (.int 2 0), (.int 0 0), (.int 0 0), (.int 3 0), (.ref 67), (.bool true), (.int 181 0), (.ref 68), .none, (.ref 69), (.ref 70), (.ref 71), (.int 273 0), (.int 53 0), (.str (.ofString "/claim/cut.py") 274)]), #[]⟩
def oA_73 (P : Params) : Obj := ⟨(.type "function"), none, (.func (fD (dC 2 6) (.ofString "less") (.ofString "Whitespace.less") 3 0 .none .none .none (.str (.ofString "cpy313.tabnanny") 194) none (.ref 72) .none 0)), #[]⟩
def oA_74 (P : Params) : Obj := ⟨(.type "tuple"), none, (.seq #[] 0), #[]⟩
def oA_75 (P : Params) : Obj := ⟨.none, none, (.fields #[]), #[]⟩
def oA_76 (P : Params) : Obj := ⟨(.type "tuple"), none, (.seq #[(.str (.ofString "self") 279), (.str (.ofString "other") 280)] 0), #[]⟩
def oA_77 (P : Params) : Obj := ⟨(.type "tuple"), none, (.seq #[] 0), #[]⟩
def oA_78 (P : Params) : Obj := ⟨.none, none, (.func (fD (dC 2 7) (.ofString "not_less_witness") (.ofString "Whitespace.not_less_witness") 0 0 .none .none .none .none none .none .none 0)), #[]⟩
def oA_79 (P : Params) : Obj := ⟨(.type "code"), none, (.fields #[(.str (.ofString "not_less_witness") 276), (.str (.ofString "Whitespace.not_less_witness") 277), (.str (.ofString "/claim/cut.py") 278), (.int 56 0), (.int 2 0), (.int 0 0), (.int 0 0), (.int 3 0), (.ref 74), (.bool true), (.int 181 0), (.ref 75), .none, (.ref 76), (.ref 77), (.ref 78), (.int 281 0), (.int 56 0), (.str (.ofString "/claim/cut.py") 282)]), #[]⟩
def oA_80 (P : Params) : Obj := ⟨(.type "function"), none, (.func (fD (dC 2 7) (.ofString "not_less_witness") (.ofString "Whitespace.not_less_witness") 3 0 .none .none .none (.str (.ofString "cpy313.tabnanny") 194) none (.ref 79) .none 0)), #[]⟩
def oA_81 (P : Params) : Obj := ⟨(.type "tuple"), none, (.seq #[(.str (.ofString "is_simple") 284), (.str (.ofString "n") 285), (.str (.ofString "norm") 286), (.str (.ofString "nt") 287), (.str (.ofString "raw") 288)] 0), #[]⟩
def oA_82 (P : Params) : Obj := ⟨(.type "dict"), none, (.dict #[(kE P "__module__" 203 (.str (.ofString "cpy313.tabnanny") 194)), (kE P "__firstlineno__" 207 (.int 5 206)), (kE P "S" 211 (.str (.ofString " ") 209)), (kE P "T" 212 (.str (.ofString "\t") 210)), (kE P "__init__" 227 (.ref 38)), (kE P "longest_run_of_spaces" 236 (.ref 45)), (kE P "indent_level" 248 (.ref 52)), (kE P "equal" 256 (.ref 59)), (kE P "not_equal_witness" 267 (.ref 66)), (kE P "less" 275 (.ref 73)), (kE P "not_less_witness" 283 (.ref 80)), (kE P "__static_attributes__" 289 (.ref 81)), (kE P "__dict__" 291 (.ref 84)), (kE P "__weakref__" 293 (.ref 85)), (kE P "__doc__" 294 .none)] 4), #[]⟩
def oA_83 (P : Params) : Obj := ⟨(.type "type"), none, (.cls ⟨(.ofString "Whitespace"), [(.type "object")], [(.ref 83), (.type "object")], 82, (.ofString "Whitespace"), true, [], [], false, none, false⟩), #[none, none, some (.str (.ofString "Whitespace") 196), some (.str (.ofString "Whitespace") 204), some (.builtin "object.__new__"), some (.bool true)]⟩
def oA_84 (P : Params) : Obj := ⟨(.type "getset_descriptor"), none, (.fields #[(.str (.ofString "__dict__") 290), (.ref 83), (.builtin "function.__dict__"), (.builtin "function.__dict__#set")]), #[]⟩
def oA_85 (P : Params) : Obj := ⟨(.type "getset_descriptor"), none, (.fields #[(.str (.ofString "__weakref__") 292), (.ref 83), (.builtin "ExceptionGroup.__weakref__"), .none]), #[]⟩
def oA_86 (P : Params) : Obj := ⟨(.type "super"), none, (.fields #[(.ref 83), (.ref 83), (.ref 83)]), #[]⟩
def oA_87 (P : Params) : Obj := ⟨(.type "builtin_function_or_method"), none, (.fields #[(.builtin "object.__init_subclass__"), (.ref 83)]), #[]⟩
def TA (P : Params) : BT := (.node (boot_o_0 P) (.node (boot_o_1 P) (.node (oA_3 P) (.node (boot_o_7 P) (.node (oA_15 P) (.node (oA_31 P) (.node (oA_63 P) .nil .nil) .nil) (.node (oA_47 P) (.node (oA_79 P) .nil .nil) .nil)) (.node (oA_23 P) (.node (oA_39 P) (.node (oA_71 P) .nil .nil) .nil) (.node (oA_55 P) (.node (oA_87 P) .nil .nil) .nil))) (.node (oP_11 P) (.node (oA_19 P) (.node (oA_35 P) (.node (oA_67 P) .nil .nil) .nil) (.node (oA_51 P) (.node (oA_83 P) .nil .nil) .nil)) (.node (oA_27 P) (.node (oA_43 P) (.node (oA_75 P) .nil .nil) .nil) (.node (oA_59 P) .nil .nil)))) (.node (boot_o_5 P) (.node (boot_o_9 P) (.node (oA_17 P) (.node (oA_33 P) (.node (oA_65 P) .nil .nil) .nil) (.node (oA_49 P) (.node (oA_81 P) .nil .nil) .nil)) (.node (oA_25 P) (.node (oA_41 P) (.node (oA_73 P) .nil .nil) .nil) (.node (oA_57 P) .nil .nil))) (.node (oP_13 P) (.node (oA_21 P) (.node (oA_37 P) (.node (oA_69 P) .nil .nil) .nil) (.node (oA_53 P) (.node (oA_85 P) .nil .nil) .nil)) (.node (oA_29 P) (.node (oA_45 P) (.node (oA_77 P) .nil .nil) .nil) (.node (oA_61 P) .nil .nil))))) (.node (boot_o_2 P) (.node (boot_o_4 P) (.node (boot_o_8 P) (.node (oA_16 P) (.node (oA_32 P) (.node (oA_64 P) .nil .nil) .nil) (.node (oA_48 P) (.node (oA_80 P) .nil .nil) .nil)) (.node (oA_24 P) (.node (oA_40 P) (.node (oA_72 P) .nil .nil) .nil) (.node (oA_56 P) .nil .nil))) (.node (oA_12 P) (.node (oA_20 P) (.node (oA_36 P) (.node (oA_68 P) .nil .nil) .nil) (.node (oA_52 P) (.node (oA_84 P) .nil .nil) .nil)) (.node (oA_28 P) (.node (oA_44 P) (.node (oA_76 P) .nil .nil) .nil) (.node (oA_60 P) .nil .nil)))) (.node (boot_o_6 P) (.node (boot_o_10 P) (.node (oA_18 P) (.node (oA_34 P) (.node (oA_66 P) .nil .nil) .nil) (.node (oA_50 P) (.node (oA_82 P) .nil .nil) .nil)) (.node (oA_26 P) (.node (oA_42 P) (.node (oA_74 P) .nil .nil) .nil) (.node (oA_58 P) .nil .nil))) (.node (oP_14 P) (.node (oA_22 P) (.node (oA_38 P) (.node (oA_70 P) .nil .nil) .nil) (.node (oA_54 P) (.node (oA_86 P) .nil .nil) .nil)) (.node (oA_30 P) (.node (oA_46 P) (.node (oA_78 P) .nil .nil) .nil) (.node (oA_62 P) .nil .nil))))))
abbrev SA (P : Params) (os : OsState) : SharedT := ⟨TA P, 88, {}, #[], boot_drawn, 299, os⟩
def oB_3 (P : Params) : Obj := ⟨(.type "dict"), none, (.dict #[(kE P "__name__" 165 (.str (.ofString "cpy313.stringprep") 297)), (kE P "__doc__" 166 .none), (kE P "__package__" 167 .none), (kE P "__loader__" 168 (.builtin "__main__.__loader__#opaque")), (kE P "__spec__" 169 .none), (kE P "__annotations__" 170 (.ref 6)), (kE P "__builtins__" 171 (.ref 4)), (kE P "__file__" 173 (.str (.ofString "/claim/cut.py") 172)), (kE P "__cached__" 174 .none), (kE P "_wall" 193 (.ref 21)), (kE P "Whitespace" 296 (.ref 83)), (kE P "b1_set" 358 (.ref 95))] 12), #[]⟩
def oB_88 (P : Params) : Obj := ⟨(.type "list"), none, (.seq #[(.int 173 299), (.int 847 300), (.int 6150 301), (.int 6155 302), (.int 6156 303), (.int 6157 304), (.int 8203 305), (.int 8204 306), (.int 8205 307), (.int 8288 308), (.int 65279 309)] 0), #[]⟩
def oB_89 (P : Params) : Obj := ⟨(.type "range"), none, (.fields #[(.int 65024 310), (.int 65040 311), (.int 1 312)]), #[]⟩
def oB_90 (P : Params) : Obj := ⟨(.type "list"), none, (.seq #[(.int 65024 315), (.int 65025 316), (.int 65026 317), (.int 65027 318), (.int 65028 319), (.int 65029 320), (.int 65030 321), (.int 65031 322), (.int 65032 323), (.int 65033 324), (.int 65034 325), (.int 65035 326), (.int 65036 327), (.int 65037 328), (.int 65038 329), (.int 65039 330)] 18), #[]⟩
def oB_91 (P : Params) : Obj := ⟨(.type "range_iterator"), none, (.fields #[(.int 65040 0), (.int 0 0), (.int 1 0)]), #[]⟩
def oB_92 (P : Params) : Obj := ⟨(.type "tuple"), none, (.seq #[] 0), #[]⟩
def oB_93 (P : Params) : Obj := ⟨(.type "StopIteration"), none, (.fields #[(.ref 92), .none, .none, .none, (.bool false), .none]), #[]⟩
def oB_94 (P : Params) : Obj := ⟨(.type "list"), none, (.seq #[(.int 173 299), (.int 847 300), (.int 6150 301), (.int 6155 302), (.int 6156 303), (.int 6157 304), (.int 8203 305), (.int 8204 306), (.int 8205 307), (.int 8288 308), (.int 65279 309), (.int 65024 315), (.int 65025 316), (.int 65026 317), (.int 65027 318), (.int 65028 319), (.int 65029 320), (.int 65030 321), (.int 65031 322), (.int 65032 323), (.int 65033 324), (.int 65034 325), (.int 65035 326), (.int 65036 327), (.int 65037 328), (.int 65038 329), (.int 65039 330)] 0), #[]⟩
def oB_95 (P : Params) : Obj := ⟨(.type "set"), none, (.set #[(65024, (.int 65024 315)), (65025, (.int 65025 316)), (65026, (.int 65026 317)), (65027, (.int 65027 318)), (65028, (.int 65028 319)), (65029, (.int 65029 320)), (6150, (.int 6150 301)), (65030, (.int 65030 321)), (65031, (.int 65031 322)), (65032, (.int 65032 323)), (65033, (.int 65033 324)), (6155, (.int 6155 302)), (6156, (.int 6156 303)), (6157, (.int 6157 304)), (8203, (.int 8203 305)), (8204, (.int 8204 306)), (8205, (.int 8205 307)), (65034, (.int 65034 325)), (65035, (.int 65035 326)), (65036, (.int 65036 327)), (65037, (.int 65037 328)), (65038, (.int 65038 329)), (65039, (.int 65039 330)), (173, (.int 173 299)), (847, (.int 847 300)), (8288, (.int 8288 308)), (65279, (.int 65279 309))] 29 ⟨127, #[0, 1, 2, 3, 4, 5, 6, 7, 8, 9, 10, 11, 12, 13, 14, 15, 16, 17, 18, 19, 20, 21, 22, 45, 79, 96, 127], #[], 0, !P.followText "set-order", 2, true⟩), #[]⟩
def oB_96 (P : Params) : Obj := ⟨(.type "list_iterator"), none, (.fields #[.none, (.int 27 0)]), #[]⟩
def oB_97 (P : Params) : Obj := ⟨(.type "tuple"), none, (.seq #[] 0), #[]⟩
def oB_98 (P : Params) : Obj := ⟨(.type "StopIteration"), none, (.fields #[(.ref 97), .none, .none, .none, (.bool false), .none]), #[]⟩
def TB (P : Params) : BT := (.node (boot_o_0 P) (.node (boot_o_1 P) (.node (oB_3 P) (.node (boot_o_7 P) (.node (oA_15 P) (.node (oA_31 P) (.node (oA_63 P) .nil .nil) (.node (oB_95 P) .nil .nil)) (.node (oA_47 P) (.node (oA_79 P) .nil .nil) .nil)) (.node (oA_23 P) (.node (oA_39 P) (.node (oA_71 P) .nil .nil) .nil) (.node (oA_55 P) (.node (oA_87 P) .nil .nil) .nil))) (.node (oP_11 P) (.node (oA_19 P) (.node (oA_35 P) (.node (oA_67 P) .nil .nil) .nil) (.node (oA_51 P) (.node (oA_83 P) .nil .nil) .nil)) (.node (oA_27 P) (.node (oA_43 P) (.node (oA_75 P) .nil .nil) .nil) (.node (oA_59 P) (.node (oB_91 P) .nil .nil) .nil)))) (.node (boot_o_5 P) (.node (boot_o_9 P) (.node (oA_17 P) (.node (oA_33 P) (.node (oA_65 P) .nil .nil) (.node (oB_97 P) .nil .nil)) (.node (oA_49 P) (.node (oA_81 P) .nil .nil) .nil)) (.node (oA_25 P) (.node (oA_41 P) (.node (oA_73 P) .nil .nil) .nil) (.node (oA_57 P) (.node (oB_89 P) .nil .nil) .nil))) (.node (oP_13 P) (.node (oA_21 P) (.node (oA_37 P) (.node (oA_69 P) .nil .nil) .nil) (.node (oA_53 P) (.node (oA_85 P) .nil .nil) .nil)) (.node (oA_29 P) (.node (oA_45 P) (.node (oA_77 P) .nil .nil) .nil) (.node (oA_61 P) (.node (oB_93 P) .nil .nil) .nil))))) (.node (boot_o_2 P) (.node (boot_o_4 P) (.node (boot_o_8 P) (.node (oA_16 P) (.node (oA_32 P) (.node (oA_64 P) .nil .nil) (.node (oB_96 P) .nil .nil)) (.node (oA_48 P) (.node (oA_80 P) .nil .nil) .nil)) (.node (oA_24 P) (.node (oA_40 P) (.node (oA_72 P) .nil .nil) .nil) (.node (oA_56 P) (.node (oB_88 P) .nil .nil) .nil))) (.node (oA_12 P) (.node (oA_20 P) (.node (oA_36 P) (.node (oA_68 P) .nil .nil) .nil) (.node (oA_52 P) (.node (oA_84 P) .nil .nil) .nil)) (.node (oA_28 P) (.node (oA_44 P) (.node (oA_76 P) .nil .nil) .nil) (.node (oA_60 P) (.node (oB_92 P) .nil .nil) .nil)))) (.node (boot_o_6 P) (.node (boot_o_10 P) (.node (oA_18 P) (.node (oA_34 P) (.node (oA_66 P) .nil .nil) (.node (oB_98 P) .nil .nil)) (.node (oA_50 P) (.node (oA_82 P) .nil .nil) .nil)) (.node (oA_26 P) (.node (oA_42 P) (.node (oA_74 P) .nil .nil) .nil) (.node (oA_58 P) (.node (oB_90 P) .nil .nil) .nil))) (.node (oP_14 P) (.node (oA_22 P) (.node (oA_38 P) (.node (oA_70 P) .nil .nil) .nil) (.node (oA_54 P) (.node (oA_86 P) .nil .nil) .nil)) (.node (oA_30 P) (.node (oA_46 P) (.node (oA_78 P) .nil .nil) .nil) (.node (oA_62 P) (.node (oB_94 P) .nil .nil) .nil))))))
abbrev SB (P : Params) (os : OsState) : SharedT := ⟨TB P, 99, {}, #[], boot_drawn, 359, os⟩
def oC_3 (P : Params) : Obj := ⟨(.type "dict"), none, (.dict #[(kE P "__name__" 165 (.str (.ofString "cpy313.stringprep") 297)), (kE P "__doc__" 166 .none), (kE P "__package__" 167 .none), (kE P "__loader__" 168 (.builtin "__main__.__loader__#opaque")), (kE P "__spec__" 169 .none), (kE P "__annotations__" 170 (.ref 6)), (kE P "__builtins__" 171 (.ref 4)), (kE P "__file__" 173 (.str (.ofString "/claim/cut.py") 172)), (kE P "__cached__" 174 .none), (kE P "_wall" 193 (.ref 21)), (kE P "Whitespace" 296 (.ref 83)), (kE P "b1_set" 358 (.ref 95)), (kE P "in_table_b1" 365 (.ref 105))] 13), #[]⟩
def oC_12 (P : Params) : Obj := ⟨.none, none, (.fields #[(.int 1 0), (.int 0 0), (.ref 20), (.int 5 0), (.int 0 0), (.ref 27), (.int 60 0), (.int 0 0), (.ref 104)]), #[]⟩
def oC_99 (P : Params) : Obj := ⟨(.type "tuple"), none, (.seq #[] 0), #[]⟩
def oC_100 (P : Params) : Obj := ⟨.none, none, (.fields #[]), #[]⟩
def oC_101 (P : Params) : Obj := ⟨(.type "tuple"), none, (.seq #[(.str (.ofString "code") 362)] 0), #[]⟩
def oC_102 (P : Params) : Obj := ⟨(.type "tuple"), none, (.seq #[] 0), #[]⟩
def oC_103 (P : Params) : Obj := ⟨.none, none, (.func (fD (dT 5) (.ofString "in_table_b1") (.ofString "in_table_b1") 0 0 .none .none .none .none none .none .none 0)), #[]⟩
def oC_104 (P : Params) : Obj := ⟨(.type "code"), none, (.fields #[(.str (.ofString "in_table_b1") 359), (.str (.ofString "in_table_b1") 360), (.str (.ofString "/claim/cut.py") 361), (.int 60 0), (.int 1 0), (.int 0 0), (.int 0 0), (.int 3 0), (.ref 99), (.bool true), (.int 181 0), (.ref 100), .none, (.ref 101), (.ref 102), (.ref 103), (.int 363 0), (.int 60 0), (.str (.ofString "/claim/cut.py") 364)]), #[]⟩
def oC_105 (P : Params) : Obj := ⟨(.type "function"), none, (.func (fD (dT 5) (.ofString "in_table_b1") (.ofString "in_table_b1") 3 0 .none .none .none (.str (.ofString "cpy313.stringprep") 297) none (.ref 104) .none 0)), #[]⟩
def TC (P : Params) : BT := (.node (boot_o_0 P) (.node (boot_o_1 P) (.node (oC_3 P) (.node (boot_o_7 P) (.node (oA_15 P) (.node (oA_31 P) (.node (oA_63 P) .nil .nil) (.node (oB_95 P) .nil .nil)) (.node (oA_47 P) (.node (oA_79 P) .nil .nil) .nil)) (.node (oA_23 P) (.node (oA_39 P) (.node (oA_71 P) .nil .nil) (.node (oC_103 P) .nil .nil)) (.node (oA_55 P) (.node (oA_87 P) .nil .nil) .nil))) (.node (oP_11 P) (.node (oA_19 P) (.node (oA_35 P) (.node (oA_67 P) .nil .nil) (.node (oC_99 P) .nil .nil)) (.node (oA_51 P) (.node (oA_83 P) .nil .nil) .nil)) (.node (oA_27 P) (.node (oA_43 P) (.node (oA_75 P) .nil .nil) .nil) (.node (oA_59 P) (.node (oB_91 P) .nil .nil) .nil)))) (.node (boot_o_5 P) (.node (boot_o_9 P) (.node (oA_17 P) (.node (oA_33 P) (.node (oA_65 P) .nil .nil) (.node (oB_97 P) .nil .nil)) (.node (oA_49 P) (.node (oA_81 P) .nil .nil) .nil)) (.node (oA_25 P) (.node (oA_41 P) (.node (oA_73 P) .nil .nil) (.node (oC_105 P) .nil .nil)) (.node (oA_57 P) (.node (oB_89 P) .nil .nil) .nil))) (.node (oP_13 P) (.node (oA_21 P) (.node (oA_37 P) (.node (oA_69 P) .nil .nil) (.node (oC_101 P) .nil .nil)) (.node (oA_53 P) (.node (oA_85 P) .nil .nil) .nil)) (.node (oA_29 P) (.node (oA_45 P) (.node (oA_77 P) .nil .nil) .nil) (.node (oA_61 P) (.node (oB_93 P) .nil .nil) .nil))))) (.node (boot_o_2 P) (.node (boot_o_4 P) (.node (boot_o_8 P) (.node (oA_16 P) (.node (oA_32 P) (.node (oA_64 P) .nil .nil) (.node (oB_96 P) .nil .nil)) (.node (oA_48 P) (.node (oA_80 P) .nil .nil) .nil)) (.node (oA_24 P) (.node (oA_40 P) (.node (oA_72 P) .nil .nil) (.node (oC_104 P) .nil .nil)) (.node (oA_56 P) (.node (oB_88 P) .nil .nil) .nil))) (.node (oC_12 P) (.node (oA_20 P) (.node (oA_36 P) (.node (oA_68 P) .nil .nil) (.node (oC_100 P) .nil .nil)) (.node (oA_52 P) (.node (oA_84 P) .nil .nil) .nil)) (.node (oA_28 P) (.node (oA_44 P) (.node (oA_76 P) .nil .nil) .nil) (.node (oA_60 P) (.node (oB_92 P) .nil .nil) .nil)))) (.node (boot_o_6 P) (.node (boot_o_10 P) (.node (oA_18 P) (.node (oA_34 P) (.node (oA_66 P) .nil .nil) (.node (oB_98 P) .nil .nil)) (.node (oA_50 P) (.node (oA_82 P) .nil .nil) .nil)) (.node (oA_26 P) (.node (oA_42 P) (.node (oA_74 P) .nil .nil) .nil) (.node (oA_58 P) (.node (oB_90 P) .nil .nil) .nil))) (.node (oP_14 P) (.node (oA_22 P) (.node (oA_38 P) (.node (oA_70 P) .nil .nil) (.node (oC_102 P) .nil .nil)) (.node (oA_54 P) (.node (oA_86 P) .nil .nil) .nil)) (.node (oA_30 P) (.node (oA_46 P) (.node (oA_78 P) .nil .nil) .nil) (.node (oA_62 P) (.node (oB_94 P) .nil .nil) .nil))))))
abbrev SC (P : Params) (os : OsState) : SharedT := ⟨TC P, 106, {}, #[], boot_drawn, 366, os⟩
def oD_106 : Obj := yD.objs.getD 0 default
def oD_107 : Obj := yD.objs.getD 1 default
def oD_108 : Obj := yD.objs.getD 2 default
def oD_109 : Obj := yD.objs.getD 3 default
def oD_110 : Obj := yD.objs.getD 4 default
def oD_111 : Obj := yD.objs.getD 5 default
def oD_112 : Obj := yD.objs.getD 6 default
def oD_113 : Obj := yD.objs.getD 7 default
def oD_114 : Obj := yD.objs.getD 8 default
def oD_115 : Obj := yD.objs.getD 9 default
def oD_116 : Obj := yD.objs.getD 10 default
def oD_117 : Obj := yD.objs.getD 11 default
def oD_118 : Obj := yD.objs.getD 12 default
def oD_119 : Obj := yD.objs.getD 13 default
def oD_120 : Obj := yD.objs.getD 14 default
def oD_121 : Obj := yD.objs.getD 15 default
def oD_122 : Obj := yD.objs.getD 16 default
def oD_123 : Obj := yD.objs.getD 17 default
def oD_124 : Obj := yD.objs.getD 18 default
def oD_125 : Obj := yD.objs.getD 19 default
def oD_126 : Obj := yD.objs.getD 20 default
def oD_127 : Obj := yD.objs.getD 21 default
def oD_128 : Obj := yD.objs.getD 22 default
def oD_129 : Obj := yD.objs.getD 23 default
def oD_130 : Obj := yD.objs.getD 24 default
def oD_131 : Obj := yD.objs.getD 25 default
def oD_132 : Obj := yD.objs.getD 26 default
def oD_133 : Obj := yD.objs.getD 27 default
def oD_134 : Obj := yD.objs.getD 28 default
def oD_135 : Obj := yD.objs.getD 29 default
def oD_136 : Obj := yD.objs.getD 30 default
def oD_137 : Obj := yD.objs.getD 31 default
def oD_138 : Obj := yD.objs.getD 32 default
def oD_139 : Obj := yD.objs.getD 33 default
def oD_140 : Obj := yD.objs.getD 34 default
def oD_141 : Obj := yD.objs.getD 35 default
def oD_142 : Obj := yD.objs.getD 36 default
def oD_143 : Obj := yD.objs.getD 37 default
def oD_144 : Obj := yD.objs.getD 38 default
def TD (P : Params) : BT := (.node (boot_o_0 P) (.node (boot_o_1 P) (.node (oC_3 P) (.node (boot_o_7 P) (.node (oA_15 P) (.node (oA_31 P) (.node (oA_63 P) (.node oD_127 .nil .nil) .nil) (.node (oB_95 P) .nil .nil)) (.node (oA_47 P) (.node (oA_79 P) (.node oD_143 .nil .nil) .nil) (.node oD_111 .nil .nil))) (.node (oA_23 P) (.node (oA_39 P) (.node (oA_71 P) (.node oD_135 .nil .nil) .nil) (.node (oC_103 P) .nil .nil)) (.node (oA_55 P) (.node (oA_87 P) .nil .nil) (.node oD_119 .nil .nil)))) (.node (oP_11 P) (.node (oA_19 P) (.node (oA_35 P) (.node (oA_67 P) (.node oD_131 .nil .nil) .nil) (.node (oC_99 P) .nil .nil)) (.node (oA_51 P) (.node (oA_83 P) .nil .nil) (.node oD_115 .nil .nil))) (.node (oA_27 P) (.node (oA_43 P) (.node (oA_75 P) (.node oD_139 .nil .nil) .nil) (.node oD_107 .nil .nil)) (.node (oA_59 P) (.node (oB_91 P) .nil .nil) (.node oD_123 .nil .nil))))) (.node (boot_o_5 P) (.node (boot_o_9 P) (.node (oA_17 P) (.node (oA_33 P) (.node (oA_65 P) (.node oD_129 .nil .nil) .nil) (.node (oB_97 P) .nil .nil)) (.node (oA_49 P) (.node (oA_81 P) .nil .nil) (.node oD_113 .nil .nil))) (.node (oA_25 P) (.node (oA_41 P) (.node (oA_73 P) (.node oD_137 .nil .nil) .nil) (.node (oC_105 P) .nil .nil)) (.node (oA_57 P) (.node (oB_89 P) .nil .nil) (.node oD_121 .nil .nil)))) (.node (oP_13 P) (.node (oA_21 P) (.node (oA_37 P) (.node (oA_69 P) (.node oD_133 .nil .nil) .nil) (.node (oC_101 P) .nil .nil)) (.node (oA_53 P) (.node (oA_85 P) .nil .nil) (.node oD_117 .nil .nil))) (.node (oA_29 P) (.node (oA_45 P) (.node (oA_77 P) (.node oD_141 .nil .nil) .nil) (.node oD_109 .nil .nil)) (.node (oA_61 P) (.node (oB_93 P) .nil .nil) (.node oD_125 .nil .nil)))))) (.node (boot_o_2 P) (.node (boot_o_4 P) (.node (boot_o_8 P) (.node (oA_16 P) (.node (oA_32 P) (.node (oA_64 P) (.node oD_128 .nil .nil) .nil) (.node (oB_96 P) .nil .nil)) (.node (oA_48 P) (.node (oA_80 P) (.node oD_144 .nil .nil) .nil) (.node oD_112 .nil .nil))) (.node (oA_24 P) (.node (oA_40 P) (.node (oA_72 P) (.node oD_136 .nil .nil) .nil) (.node (oC_104 P) .nil .nil)) (.node (oA_56 P) (.node (oB_88 P) .nil .nil) (.node oD_120 .nil .nil)))) (.node (oC_12 P) (.node (oA_20 P) (.node (oA_36 P) (.node (oA_68 P) (.node oD_132 .nil .nil) .nil) (.node (oC_100 P) .nil .nil)) (.node (oA_52 P) (.node (oA_84 P) .nil .nil) (.node oD_116 .nil .nil))) (.node (oA_28 P) (.node (oA_44 P) (.node (oA_76 P) (.node oD_140 .nil .nil) .nil) (.node oD_108 .nil .nil)) (.node (oA_60 P) (.node (oB_92 P) .nil .nil) (.node oD_124 .nil .nil))))) (.node (boot_o_6 P) (.node (boot_o_10 P) (.node (oA_18 P) (.node (oA_34 P) (.node (oA_66 P) (.node oD_130 .nil .nil) .nil) (.node (oB_98 P) .nil .nil)) (.node (oA_50 P) (.node (oA_82 P) .nil .nil) (.node oD_114 .nil .nil))) (.node (oA_26 P) (.node (oA_42 P) (.node (oA_74 P) (.node oD_138 .nil .nil) .nil) (.node oD_106 .nil .nil)) (.node (oA_58 P) (.node (oB_90 P) .nil .nil) (.node oD_122 .nil .nil)))) (.node (oP_14 P) (.node (oA_22 P) (.node (oA_38 P) (.node (oA_70 P) (.node oD_134 .nil .nil) .nil) (.node (oC_102 P) .nil .nil)) (.node (oA_54 P) (.node (oA_86 P) .nil .nil) (.node oD_118 .nil .nil))) (.node (oA_30 P) (.node (oA_46 P) (.node (oA_78 P) (.node oD_142 .nil .nil) .nil) (.node oD_110 .nil .nil)) (.node (oA_62 P) (.node (oB_94 P) .nil .nil) (.node oD_126 .nil .nil)))))))
abbrev SD (P : Params) (os : OsState) : SharedT := ⟨TD P, 145, {}, #[], boot_drawn, yD.t, os⟩
def oF_3 (P : Params) : Obj := ⟨(.type "dict"), none, (.dict #[(kE P "__name__" 165 (.str (.ofString "law_nb0274_02") 2325)), (kE P "__doc__" 166 .none), (kE P "__package__" 167 .none), (kE P "__loader__" 168 (.builtin "__main__.__loader__#opaque")), (kE P "__spec__" 169 .none), (kE P "__annotations__" 170 (.ref 6)), (kE P "__builtins__" 171 (.ref 4)), (kE P "__file__" 173 (.str (.ofString "/claim/cut.py") 172)), (kE P "__cached__" 174 .none), (kE P "_wall" 193 (.ref 21)), (kE P "Whitespace" 296 (.ref 83)), (kE P "b1_set" 358 (.ref 95)), (kE P "in_table_b1" 365 (.ref 105)), (kE P "b3_exceptions" 2316 (.ref 106)), (kE P "map_table_b3" 2324 (.ref 151)), (kE P "_law_many" 2332 (.ref 156)), (kE P "_law_nothing" 2338 (.ref 161)), (kE P "_law_sign" 2351 (.ref 168)), (kE P "_law_word" 2363 (.ref 175)), (kE P "_law_spelled" 2369 (.ref 180)), (kE P "_law_prepared" 2375 (.ref 185)), (kE P "_law_column" 2381 (.ref 190)), (kE P "law" 2387 (.ref 195))] 23), #[]⟩
def oF_12 (P : Params) : Obj := ⟨.none, none, (.fields #[(.int 1 0), (.int 0 0), (.ref 20), (.int 5 0), (.int 0 0), (.ref 27), (.int 60 0), (.int 0 0), (.ref 104), (.int 63 0), (.int 0 0), (.ref 150), (.int 69 0), (.int 0 0), (.ref 155), (.int 73 0), (.int 0 0), (.ref 160), (.int 77 0), (.int 0 0), (.ref 167), (.int 93 0), (.int 0 0), (.ref 174), (.int 105 0), (.int 0 0), (.ref 179), (.int 107 0), (.int 0 0), (.ref 184), (.int 110 0), (.int 0 0), (.ref 189), (.int 112 0), (.int 0 0), (.ref 194)]), #[]⟩
def oF_145 (P : Params) : Obj := ⟨(.type "tuple"), none, (.seq #[] 0), #[]⟩
def oF_146 (P : Params) : Obj := ⟨.none, none, (.fields #[]), #[]⟩
def oF_147 (P : Params) : Obj := ⟨(.type "tuple"), none, (.seq #[(.str (.ofString "code") 2320), (.str (.ofString "r") 2321)] 0), #[]⟩
def oF_148 (P : Params) : Obj := ⟨(.type "tuple"), none, (.seq #[] 0), #[]⟩
def oF_149 (P : Params) : Obj := ⟨.none, none, (.func (fD (dT 7) (.ofString "map_table_b3") (.ofString "map_table_b3") 0 0 .none .none .none .none none .none .none 0)), #[]⟩
def oF_150 (P : Params) : Obj := ⟨(.type "code"), none, (.fields #[(.str (.ofString "map_table_b3") 2317), (.str (.ofString "map_table_b3") 2318), (.str (.ofString "/claim/cut.py") 2319), (.int 63 0), (.int 1 0), (.int 0 0), (.int 0 0), (.int 3 0), (.ref 145), (.bool true), (.int 181 0), (.ref 146), .none, (.ref 147), (.ref 148), (.ref 149), (.int 2322 0), (.int 63 0), (.str (.ofString "/claim/cut.py") 2323)]), #[]⟩
def oF_151 (P : Params) : Obj := ⟨(.type "function"), none, (.func (fD (dT 7) (.ofString "map_table_b3") (.ofString "map_table_b3") 3 0 .none .none .none (.str (.ofString "cpy313.stringprep") 297) none (.ref 150) .none 0)), #[]⟩
def oF_152 (P : Params) : Obj := ⟨(.type "tuple"), none, (.seq #[] 0), #[]⟩
def oF_153 (P : Params) : Obj := ⟨.none, none, (.fields #[]), #[]⟩
def oF_154 (P : Params) : Obj := ⟨.none, none, (.func (fD (dT 9) (.ofString "_law_many") (.ofString "_law_many") 0 0 .none .none .none .none none .none .none 0)), #[]⟩
def oF_155 (P : Params) : Obj := ⟨(.type "code"), none, (.fields #[(.str (.ofString "_law_many") 2327), (.str (.ofString "_law_many") 2328), (.str (.ofString "/claim/cut.py") 2329), (.int 69 0), (.int 0 0), (.int 0 0), (.int 0 0), (.int 3 0), (.ref 152), (.bool true), (.int 181 0), (.ref 153), .none, .none, .none, (.ref 154), (.int 2330 0), (.int 69 0), (.str (.ofString "/claim/cut.py") 2331)]), #[]⟩
def oF_156 (P : Params) : Obj := ⟨(.type "function"), none, (.func (fD (dT 9) (.ofString "_law_many") (.ofString "_law_many") 3 0 .none .none .none (.str (.ofString "law_nb0274_02") 2325) none (.ref 155) .none 0)), #[]⟩
def oF_157 (P : Params) : Obj := ⟨(.type "tuple"), none, (.seq #[] 0), #[]⟩
def oF_158 (P : Params) : Obj := ⟨.none, none, (.fields #[]), #[]⟩
def oF_159 (P : Params) : Obj := ⟨.none, none, (.func (fD (dT 10) (.ofString "_law_nothing") (.ofString "_law_nothing") 0 0 .none .none .none .none none .none .none 0)), #[]⟩
def oF_160 (P : Params) : Obj := ⟨(.type "code"), none, (.fields #[(.str (.ofString "_law_nothing") 2333), (.str (.ofString "_law_nothing") 2334), (.str (.ofString "/claim/cut.py") 2335), (.int 73 0), (.int 0 0), (.int 0 0), (.int 0 0), (.int 3 0), (.ref 157), (.bool true), (.int 181 0), (.ref 158), .none, .none, .none, (.ref 159), (.int 2336 0), (.int 73 0), (.str (.ofString "/claim/cut.py") 2337)]), #[]⟩
def oF_161 (P : Params) : Obj := ⟨(.type "function"), none, (.func (fD (dT 10) (.ofString "_law_nothing") (.ofString "_law_nothing") 3 0 .none .none .none (.str (.ofString "law_nb0274_02") 2325) none (.ref 160) .none 0)), #[]⟩
def oF_162 (P : Params) : Obj := ⟨(.type "tuple"), none, (.seq #[] 0), #[]⟩
def oF_163 (P : Params) : Obj := ⟨.none, none, (.fields #[]), #[]⟩
def oF_164 (P : Params) : Obj := ⟨(.type "tuple"), none, (.seq #[(.str (.ofString "letter") 2342), (.str (.ofString "x") 2343), (.str (.ofString "nothing") 2344), (.str (.ofString "place") 2345), (.str (.ofString "way") 2346), (.str (.ofString "code") 2347), (.str (.ofString "gaps") 2348)] 0), #[]⟩
def oF_165 (P : Params) : Obj := ⟨(.type "tuple"), none, (.seq #[] 0), #[]⟩
def oF_166 (P : Params) : Obj := ⟨.none, none, (.func (fD (dT 11) (.ofString "_law_sign") (.ofString "_law_sign") 0 0 .none .none .none .none none .none .none 0)), #[]⟩
def oF_167 (P : Params) : Obj := ⟨(.type "code"), none, (.fields #[(.str (.ofString "_law_sign") 2339), (.str (.ofString "_law_sign") 2340), (.str (.ofString "/claim/cut.py") 2341), (.int 77 0), (.int 3 0), (.int 0 0), (.int 0 0), (.int 3 0), (.ref 162), (.bool true), (.int 181 0), (.ref 163), .none, (.ref 164), (.ref 165), (.ref 166), (.int 2349 0), (.int 77 0), (.str (.ofString "/claim/cut.py") 2350)]), #[]⟩
def oF_168 (P : Params) : Obj := ⟨(.type "function"), none, (.func (fD (dT 11) (.ofString "_law_sign") (.ofString "_law_sign") 3 0 .none .none .none (.str (.ofString "law_nb0274_02") 2325) none (.ref 167) .none 0)), #[]⟩
def oF_169 (P : Params) : Obj := ⟨(.type "tuple"), none, (.seq #[] 0), #[]⟩
def oF_170 (P : Params) : Obj := ⟨.none, none, (.fields #[]), #[]⟩
def oF_171 (P : Params) : Obj := ⟨(.type "tuple"), none, (.seq #[(.str (.ofString "numbers") 2355), (.str (.ofString "nothing") 2356), (.str (.ofString "many") 2357), (.str (.ofString "spelling") 2358), (.str (.ofString "letters") 2359), (.str (.ofString "x") 2360)] 0), #[]⟩
def oF_172 (P : Params) : Obj := ⟨(.type "tuple"), none, (.seq #[] 0), #[]⟩
def oF_173 (P : Params) : Obj := ⟨.none, none, (.func (fD (dT 12) (.ofString "_law_word") (.ofString "_law_word") 0 0 .none .none .none .none none .none .none 0)), #[]⟩
def oF_174 (P : Params) : Obj := ⟨(.type "code"), none, (.fields #[(.str (.ofString "_law_word") 2352), (.str (.ofString "_law_word") 2353), (.str (.ofString "/claim/cut.py") 2354), (.int 93 0), (.int 2 0), (.int 0 0), (.int 0 0), (.int 3 0), (.ref 169), (.bool true), (.int 181 0), (.ref 170), .none, (.ref 171), (.ref 172), (.ref 173), (.int 2361 0), (.int 93 0), (.str (.ofString "/claim/cut.py") 2362)]), #[]⟩
def oF_175 (P : Params) : Obj := ⟨(.type "function"), none, (.func (fD (dT 12) (.ofString "_law_word") (.ofString "_law_word") 3 0 .none .none .none (.str (.ofString "law_nb0274_02") 2325) none (.ref 174) .none 0)), #[]⟩
def oF_176 (P : Params) : Obj := ⟨(.type "tuple"), none, (.seq #[] 0), #[]⟩
def oF_177 (P : Params) : Obj := ⟨.none, none, (.fields #[]), #[]⟩
def oF_178 (P : Params) : Obj := ⟨.none, none, (.func (fD (dT 13) (.ofString "_law_spelled") (.ofString "_law_spelled") 0 0 .none .none .none .none none .none .none 0)), #[]⟩
def oF_179 (P : Params) : Obj := ⟨(.type "code"), none, (.fields #[(.str (.ofString "_law_spelled") 2364), (.str (.ofString "_law_spelled") 2365), (.str (.ofString "/claim/cut.py") 2366), (.int 105 0), (.int 3 0), (.int 0 0), (.int 0 0), (.int 3 0), (.ref 176), (.bool true), (.int 181 0), (.ref 177), .none, .none, .none, (.ref 178), (.int 2367 0), (.int 105 0), (.str (.ofString "/claim/cut.py") 2368)]), #[]⟩
def oF_180 (P : Params) : Obj := ⟨(.type "function"), none, (.func (fD (dT 13) (.ofString "_law_spelled") (.ofString "_law_spelled") 3 0 .none .none .none (.str (.ofString "law_nb0274_02") 2325) none (.ref 179) .none 0)), #[]⟩
def oF_181 (P : Params) : Obj := ⟨(.type "tuple"), none, (.seq #[] 0), #[]⟩
def oF_182 (P : Params) : Obj := ⟨.none, none, (.fields #[]), #[]⟩
def oF_183 (P : Params) : Obj := ⟨.none, none, (.func (fD (dT 14) (.ofString "_law_prepared") (.ofString "_law_prepared") 0 0 .none .none .none .none none .none .none 0)), #[]⟩
def oF_184 (P : Params) : Obj := ⟨(.type "code"), none, (.fields #[(.str (.ofString "_law_prepared") 2370), (.str (.ofString "_law_prepared") 2371), (.str (.ofString "/claim/cut.py") 2372), (.int 107 0), (.int 1 0), (.int 0 0), (.int 0 0), (.int 3 0), (.ref 181), (.bool true), (.int 181 0), (.ref 182), .none, .none, .none, (.ref 183), (.int 2373 0), (.int 107 0), (.str (.ofString "/claim/cut.py") 2374)]), #[]⟩
def oF_185 (P : Params) : Obj := ⟨(.type "function"), none, (.func (fD (dT 14) (.ofString "_law_prepared") (.ofString "_law_prepared") 3 0 .none .none .none (.str (.ofString "law_nb0274_02") 2325) none (.ref 184) .none 0)), #[]⟩
def oF_186 (P : Params) : Obj := ⟨(.type "tuple"), none, (.seq #[] 0), #[]⟩
def oF_187 (P : Params) : Obj := ⟨.none, none, (.fields #[]), #[]⟩
def oF_188 (P : Params) : Obj := ⟨.none, none, (.func (fD (dT 15) (.ofString "_law_column") (.ofString "_law_column") 0 0 .none .none .none .none none .none .none 0)), #[]⟩
def oF_189 (P : Params) : Obj := ⟨(.type "code"), none, (.fields #[(.str (.ofString "_law_column") 2376), (.str (.ofString "_law_column") 2377), (.str (.ofString "/claim/cut.py") 2378), (.int 110 0), (.int 3 0), (.int 0 0), (.int 0 0), (.int 3 0), (.ref 186), (.bool true), (.int 181 0), (.ref 187), .none, .none, .none, (.ref 188), (.int 2379 0), (.int 110 0), (.str (.ofString "/claim/cut.py") 2380)]), #[]⟩
def oF_190 (P : Params) : Obj := ⟨(.type "function"), none, (.func (fD (dT 15) (.ofString "_law_column") (.ofString "_law_column") 3 0 .none .none .none (.str (.ofString "law_nb0274_02") 2325) none (.ref 189) .none 0)), #[]⟩
def oF_191 (P : Params) : Obj := ⟨(.type "tuple"), none, (.seq #[] 0), #[]⟩
def oF_192 (P : Params) : Obj := ⟨.none, none, (.fields #[]), #[]⟩
def oF_193 (P : Params) : Obj := ⟨.none, none, (.func (fD (dT 16) (.ofString "law") (.ofString "law") 0 0 .none .none .none .none none .none .none 0)), #[]⟩
def oF_194 (P : Params) : Obj := ⟨(.type "code"), none, (.fields #[(.str (.ofString "law") 2382), (.str (.ofString "law") 2383), (.str (.ofString "/claim/cut.py") 2384), (.int 112 0), (.int 1 0), (.int 0 0), (.int 0 0), (.int 3 0), (.ref 191), (.bool true), (.int 181 0), (.ref 192), .none, .none, .none, (.ref 193), (.int 2385 0), (.int 112 0), (.str (.ofString "/claim/cut.py") 2386)]), #[]⟩
def oF_195 (P : Params) : Obj := ⟨(.type "function"), none, (.func (fD (dT 16) (.ofString "law") (.ofString "law") 3 0 .none .none .none (.str (.ofString "law_nb0274_02") 2325) none (.ref 194) .none 0)), #[]⟩
def TF (P : Params) : BT := (.node (boot_o_0 P) (.node (boot_o_1 P) (.node (oF_3 P) (.node (boot_o_7 P) (.node (oA_15 P) (.node (oA_31 P) (.node (oA_63 P) (.node oD_127 .nil .nil) (.node (oF_191 P) .nil .nil)) (.node (oB_95 P) (.node (oF_159 P) .nil .nil) .nil)) (.node (oA_47 P) (.node (oA_79 P) (.node oD_143 .nil .nil) .nil) (.node oD_111 (.node (oF_175 P) .nil .nil) .nil))) (.node (oA_23 P) (.node (oA_39 P) (.node (oA_71 P) (.node oD_135 .nil .nil) .nil) (.node (oC_103 P) (.node (oF_167 P) .nil .nil) .nil)) (.node (oA_55 P) (.node (oA_87 P) (.node (oF_151 P) .nil .nil) .nil) (.node oD_119 (.node (oF_183 P) .nil .nil) .nil)))) (.node (oP_11 P) (.node (oA_19 P) (.node (oA_35 P) (.node (oA_67 P) (.node oD_131 .nil .nil) (.node (oF_195 P) .nil .nil)) (.node (oC_99 P) (.node (oF_163 P) .nil .nil) .nil)) (.node (oA_51 P) (.node (oA_83 P) (.node (oF_147 P) .nil .nil) .nil) (.node oD_115 (.node (oF_179 P) .nil .nil) .nil))) (.node (oA_27 P) (.node (oA_43 P) (.node (oA_75 P) (.node oD_139 .nil .nil) .nil) (.node oD_107 (.node (oF_171 P) .nil .nil) .nil)) (.node (oA_59 P) (.node (oB_91 P) (.node (oF_155 P) .nil .nil) .nil) (.node oD_123 (.node (oF_187 P) .nil .nil) .nil))))) (.node (boot_o_5 P) (.node (boot_o_9 P) (.node (oA_17 P) (.node (oA_33 P) (.node (oA_65 P) (.node oD_129 .nil .nil) (.node (oF_193 P) .nil .nil)) (.node (oB_97 P) (.node (oF_161 P) .nil .nil) .nil)) (.node (oA_49 P) (.node (oA_81 P) (.node (oF_145 P) .nil .nil) .nil) (.node oD_113 (.node (oF_177 P) .nil .nil) .nil))) (.node (oA_25 P) (.node (oA_41 P) (.node (oA_73 P) (.node oD_137 .nil .nil) .nil) (.node (oC_105 P) (.node (oF_169 P) .nil .nil) .nil)) (.node (oA_57 P) (.node (oB_89 P) (.node (oF_153 P) .nil .nil) .nil) (.node oD_121 (.node (oF_185 P) .nil .nil) .nil)))) (.node (oP_13 P) (.node (oA_21 P) (.node (oA_37 P) (.node (oA_69 P) (.node oD_133 .nil .nil) .nil) (.node (oC_101 P) (.node (oF_165 P) .nil .nil) .nil)) (.node (oA_53 P) (.node (oA_85 P) (.node (oF_149 P) .nil .nil) .nil) (.node oD_117 (.node (oF_181 P) .nil .nil) .nil))) (.node (oA_29 P) (.node (oA_45 P) (.node (oA_77 P) (.node oD_141 .nil .nil) .nil) (.node oD_109 (.node (oF_173 P) .nil .nil) .nil)) (.node (oA_61 P) (.node (oB_93 P) (.node (oF_157 P) .nil .nil) .nil) (.node oD_125 (.node (oF_189 P) .nil .nil) .nil)))))) (.node (boot_o_2 P) (.node (boot_o_4 P) (.node (boot_o_8 P) (.node (oA_16 P) (.node (oA_32 P) (.node (oA_64 P) (.node oD_128 .nil .nil) (.node (oF_192 P) .nil .nil)) (.node (oB_96 P) (.node (oF_160 P) .nil .nil) .nil)) (.node (oA_48 P) (.node (oA_80 P) (.node oD_144 .nil .nil) .nil) (.node oD_112 (.node (oF_176 P) .nil .nil) .nil))) (.node (oA_24 P) (.node (oA_40 P) (.node (oA_72 P) (.node oD_136 .nil .nil) .nil) (.node (oC_104 P) (.node (oF_168 P) .nil .nil) .nil)) (.node (oA_56 P) (.node (oB_88 P) (.node (oF_152 P) .nil .nil) .nil) (.node oD_120 (.node (oF_184 P) .nil .nil) .nil)))) (.node (oF_12 P) (.node (oA_20 P) (.node (oA_36 P) (.node (oA_68 P) (.node oD_132 .nil .nil) .nil) (.node (oC_100 P) (.node (oF_164 P) .nil .nil) .nil)) (.node (oA_52 P) (.node (oA_84 P) (.node (oF_148 P) .nil .nil) .nil) (.node oD_116 (.node (oF_180 P) .nil .nil) .nil))) (.node (oA_28 P) (.node (oA_44 P) (.node (oA_76 P) (.node oD_140 .nil .nil) .nil) (.node oD_108 (.node (oF_172 P) .nil .nil) .nil)) (.node (oA_60 P) (.node (oB_92 P) (.node (oF_156 P) .nil .nil) .nil) (.node oD_124 (.node (oF_188 P) .nil .nil) .nil))))) (.node (boot_o_6 P) (.node (boot_o_10 P) (.node (oA_18 P) (.node (oA_34 P) (.node (oA_66 P) (.node oD_130 .nil .nil) (.node (oF_194 P) .nil .nil)) (.node (oB_98 P) (.node (oF_162 P) .nil .nil) .nil)) (.node (oA_50 P) (.node (oA_82 P) (.node (oF_146 P) .nil .nil) .nil) (.node oD_114 (.node (oF_178 P) .nil .nil) .nil))) (.node (oA_26 P) (.node (oA_42 P) (.node (oA_74 P) (.node oD_138 .nil .nil) .nil) (.node oD_106 (.node (oF_170 P) .nil .nil) .nil)) (.node (oA_58 P) (.node (oB_90 P) (.node (oF_154 P) .nil .nil) .nil) (.node oD_122 (.node (oF_186 P) .nil .nil) .nil)))) (.node (oP_14 P) (.node (oA_22 P) (.node (oA_38 P) (.node (oA_70 P) (.node oD_134 .nil .nil) .nil) (.node (oC_102 P) (.node (oF_166 P) .nil .nil) .nil)) (.node (oA_54 P) (.node (oA_86 P) (.node (oF_150 P) .nil .nil) .nil) (.node oD_118 (.node (oF_182 P) .nil .nil) .nil))) (.node (oA_30 P) (.node (oA_46 P) (.node (oA_78 P) (.node oD_142 .nil .nil) .nil) (.node oD_110 (.node (oF_174 P) .nil .nil) .nil)) (.node (oA_62 P) (.node (oB_94 P) (.node (oF_158 P) .nil .nil) .nil) (.node oD_126 (.node (oF_190 P) .nil .nil) .nil)))))))
abbrev SF (P : Params) (os : OsState) : SharedT := ⟨TF P, 196, {}, #[], boot_drawn, 2388, os⟩
end
end L02

end
noncomputable section
open PySem PySem.W PyProof.Rows Mine
set_option Elab.async false
set_option maxRecDepth 100000
namespace L02
noncomputable section
def preT : Sem (Value × Addr) := do
  let code ← moduleCode pw.main
  let frame ← newBodyFrame code mainNs mainNs
  pure (code, frame)
def env1 : Env := { scope := pw.main.scope, locals := mainNs, globals := mainNs, cells := [], code := .ref 13, frame := some 14 }
def stm (i n : Nat) : List Stmt := (pw.main.body.drop i).take n
def G1 : Ctx := G0.enter (.body (behindTheImports pw) env1) none ⟨0, 0, 0, 0⟩
abbrev row : String := "special-get-raises"
theorem pre_ok (w : World) (os : OsState) : bs pw w.params 60 preT G0 ⟨0, 0, 0, 0⟩ (S0 w.params os) = some (.ok (.ref 13, 14), ⟨0, 0, 0, 0⟩, SP w.params os) := by kernel_rfl
theorem blk_ok (w : World) (os : OsState) : bs pw w.params 60 (blockStart (behindTheImports pw) env1) G1 ⟨0, 0, 0, 0⟩ (SP w.params os) = some (.ok (), ⟨0, 0, 0, 0⟩, SP w.params os) := by kernel_rfl
theorem a_ok1 (w : World) (os : OsState) : bs pw (w.withFollow row false).params 60 (execsQ (stm 0 4) env1) G1 ⟨0, 0, 0, 0⟩ (SP (w.withFollow row false).params os) = some (.ok .next, ⟨58, 0, 58, 8⟩, SA (w.withFollow row false).params os) := by kernel_rfl
theorem a_ok2 (w : World) (os : OsState) : bs pw (w.withFollow row true).params 60 (execsQ (stm 0 4) env1) G1 ⟨0, 0, 0, 0⟩ (SP (w.withFollow row true).params os) = some (.ok .next, ⟨58, 0, 58, 8⟩, SA (w.withFollow row true).params os) := by kernel_rfl
theorem c_ok (w : World) (os : OsState) (p : Pos) : bs pw w.params 60 (execsQ (stm 5 1) env1) G1 p (SB w.params os) = some (.ok .next, ⟨60, 0, 61, 30⟩, SC w.params os) := by kernel_rfl
theorem b_ok1 (w : World) (os : OsState) (p : Pos) : bs pw (w.withFollow row false).params 60 (execsQ (stm 4 1) env1) G1 p (SA (w.withFollow row false).params os) = some (.ok .next, ⟨59, 0, 59, 6⟩, SB (w.withFollow row false).params os) := by kernel_rfl
def sTargets : Stmt → List Expr
  | .Assign t _ _ => t
  | _ => []
def sValue : Stmt → Expr
  | .Assign _ v _ => v
  | _ => .Constant .none 0 ⟨0, 0, 0, 0⟩
def sPos : Stmt → Pos
  | .Assign _ _ p => p
  | _ => ⟨0, 0, 0, 0⟩
def dKeys : Expr → List (Option Expr)
  | .Dict ks _ _ => ks
  | _ => []
def dVals : Expr → List Expr
  | .Dict _ vs _ => vs
  | _ => []
def dPos : Expr → Pos
  | .Dict _ _ p => p
  | _ => ⟨0, 0, 0, 0⟩
def dv : Expr := sValue (dT 6)
def assignD (v : Value) : Sem Flow := do assignStores env1 v (← swappedStores (sTargets (dT 6)) dv env1) ((assignEach (sTargets (dT 6)) env1).map (·.2))
theorem b_ok2 (w : World) (os : OsState) (p : Pos) : bs pw (w.withFollow row true).params 60 (execsQ (stm 4 1) env1) G1 p (SA (w.withFollow row true).params os) = some (.ok .next, ⟨59, 0, 59, 6⟩, SB (w.withFollow row true).params os) := by kernel_rfl
theorem d_ok (w : World) (os : OsState) (p : Pos) : bs pw w.params 60 (assignD (.ref 106) >>= nextOr (execsQ (stm 7 10) env1)) G1 p (SD w.params os) = some (.ok .next, ⟨112, 0, 136, 104⟩, SF w.params os) := by kernel_rfl
theorem exec_dict : exec (dT 6) env1 = (standAt (sPos (dT 6)) >>= fun _ => eval (.Dict (dKeys dv) (dVals dv) (dPos dv)) env1 >>= fun v => assignD v) := by kernel_rfl
theorem body_eq : behindTheImports pw = stm 0 4 ++ (stm 4 1 ++ (stm 5 1 ++ ([dT 6] ++ stm 7 10))) := by kernel_rfl
theorem pairs_some : constPairs (dKeys dv) (dVals dv) = some pairs := by kernel_rfl
def cutUp : Bool := (pairs.take 17).length == 17 && (chunk17 37 (pairs.drop 17)).all (fun c => c.length == 17) && (pairs.drop 646).length == 4 && pairs.length == 650
theorem cut_ok : cutUp = true := by kernel_rfl
theorem pairs_eq : pairs = pairs.take 17 ++ (chunk17 37 (pairs.drop 17)).flatten ++ pairs.drop 646 := by kernel_rfl
theorem rising_ok : rising pairs = true := by kernel_rfl
theorem heapD (P : Params) : (TD P).list 145 = (TC P).list 106 ++ yD.objs := by kernel_rfl
theorem absD (P : Params) (os : OsState) : (SD P os).abs = { (SC P os).abs with heap := ext (SC P os).abs.heap yD.objs, toks := yD.t } := by
  have : absHeap (TD P) 145 {} = ext (absHeap (TC P) 106 {}) yD.objs := by
    unfold absHeap ext
    rw [heapD]
    simp
  show Shared.mk (absHeap (TD P) 145 {}) _ _ _ _ = Shared.mk (ext (absHeap (TC P) 106 {}) yD.objs) _ _ _ _
  rw [this]; rfl
theorem sizeC (P : Params) (os : OsState) : (SC P os).abs.heap.objs.size = 106 := absHeap_size _ _ _
theorem cuts : (pairs.take 17).length = 17 ∧ (∀ c ∈ chunk17 37 (pairs.drop 17), c.length = 17) ∧ (pairs.drop 646).length = 4 ∧ pairs.length = 650 := by
  have hc := cut_ok
  simp only [cutUp, Bool.and_eq_true, beq_iff_eq, List.all_eq_true] at hc
  exact ⟨hc.1.1.1, hc.1.1.2, hc.1.2, hc.2⟩
theorem l1 : (pairs.drop 646).length ≤ 15 := by rw [cuts.2.2.1]; decide
theorem l2 : pairs.drop 646 ≠ [] := fun q => by have := cuts.2.2.1; rw [q] at this; cases this
theorem l3 : pairs.length ≤ sizeLine := by rw [cuts.2.2.2, sizeLine_eq]; decide
theorem l4 (P : Params) (os : OsState) : sysModules < (SC P os).abs.heap.objs.size := by rw [sizeC]; decide
theorem l5 (P : Params) (os : OsState) : (SD P os).abs = { (SC P os).abs with heap := ext (SC P os).abs.heap (((chunk17 37 (pairs.drop 17)).foldl St3.chunk (St3.start (SC P os).abs.toks (pairs.take 17))).last (pairs.drop 646)).objs, toks := (((chunk17 37 (pairs.drop 17)).foldl St3.chunk (St3.start (SC P os).abs.toks (pairs.take 17))).last (pairs.drop 646)).t } := absD P os

theorem a_ok (w : World) (os : OsState) : bs pw w.params 60 (execsQ (stm 0 4) env1) G1 ⟨0, 0, 0, 0⟩ (SP w.params os) = some (.ok .next, ⟨58, 0, 58, 8⟩, SA w.params os) :=
  byRow2 row (P := fun w => bs pw w.params 60 (execsQ (stm 0 4) env1) G1 ⟨0, 0, 0, 0⟩ (SP w.params os) = some (.ok .next, ⟨58, 0, 58, 8⟩, SA w.params os)) (fun w => a_ok1 w os) (fun w => a_ok2 w os) w
theorem b_ok (w : World) (os : OsState) (p : Pos) : bs pw w.params 60 (execsQ (stm 4 1) env1) G1 p (SA w.params os) = some (.ok .next, ⟨59, 0, 59, 6⟩, SB w.params os) :=
  byRow2 row (P := fun w => bs pw w.params 60 (execsQ (stm 4 1) env1) G1 p (SA w.params os) = some (.ok .next, ⟨59, 0, 59, 6⟩, SB w.params os)) (fun w => b_ok1 w os p) (fun w => b_ok2 w os p) w
theorem G1_in : G1.In A1 := ⟨rfl, by decide +kernel, (fun l h => by cases h), (fun g h => by cases h), by decide +kernel⟩
theorem top_ok (w : World) (os : OsState) : ∃ m t₁, schedN (denote table) pw w m (.single (S0 w.params os).abs (topStub pw)) = .running (.single (SF w.params os).abs t₁) ∧ through t₁ = true :=
  head_gen (prog := pw) (w := w) (n := 60) (c := .ref 13) (fr := 14) (env := env1) (Γ₁ := G1) (s₀ := S0 w.params os) (sP := SP w.params os) (sA := SA w.params os) (sB := SB w.params os) (sC := SC w.params os) (sD := SD w.params os) (sF := SF w.params os)
    (stA := stm 0 4) (stB := stm 4 1) (stC := stm 5 1) (rest := stm 7 10) (st := dT 6) (sp := sPos (dT 6)) (dp := dPos dv) (ks := dKeys dv) (vs := dVals dv) (k := assignD) (l := pairs) (c0 := pairs.take 17) (last := pairs.drop 646) (cs := chunk17 37 (pairs.drop 17)) (a := 106)
    rfl rfl G1_in (pre_ok w os) (blk_ok w os) body_eq (a_ok w os) (b_ok w os _) (c_ok w os _) exec_dict pairs_some pairs_eq cuts.1 cuts.2.1 l1 l2 rising_ok l3 (l4 w.params os) (sizeC w.params os).symm (l5 w.params os) (d_ok w os) ⟨rfl, rfl⟩ rfl
abbrev hF (P : Params) : Heap := absHeap (TF P) 196 {}
abbrev h0 (P : Params) : Heap := absHeap (T0 P) 11 {}
theorem boot_eq (P : Params) : boot_heap P = h0 P := by kernel_rfl
theorem ns_main (P : Params) : (hF P).isNs mainGlobals = true := by kernel_rfl
theorem ns_blt (P : Params) : (hF P).isNs builtinsNs = true := by kernel_rfl
theorem acc_ok (P : Params) : (hF P).accountedOkI (importedModules pw.main.body) = true := by kernel_rfl
theorem stat_ok (P : Params) : staticsOk (importedModules pw.main.body) (h0 P) (hF P) = true := by kernel_rfl
theorem names_ok (P : Params) : namesBound pw (hF P) = true := by kernel_rfl
theorem laid_ok (P : Params) : laidKept (h0 P) (hF P) = true := by kernel_rfl
theorem bmain_ok (P : Params) : (hF P).bmainOk = true := by kernel_rfl
theorem blt_ok (P : Params) : (hF P).bltView = bltViewBooted := by kernel_rfl
theorem boot_lt (b : Nat) (hb : b < 11) (h2 : b ≠ 3) (P : Params) : (TF P).get b = (T0 P).get b := by
  match b, hb with
  | 0, _ => kernel_rfl
  | 1, _ => kernel_rfl
  | 2, _ => kernel_rfl
  | 3, _ => exact absurd rfl h2
  | 4, _ => kernel_rfl
  | 5, _ => kernel_rfl
  | 6, _ => kernel_rfl
  | 7, _ => kernel_rfl
  | 8, _ => kernel_rfl
  | 9, _ => kernel_rfl
  | 10, _ => kernel_rfl
  | n + 11, h => exact absurd h (Nat.not_lt.mpr (Nat.le_add_left 11 n))
theorem old_ok (P : Params) (b : Addr) (o : Obj) (h : (h0 P).get? b = some o) (hn : ¬ theTopsOwn (h0 P) b) : (hF P).get? b = some o := by
  have hb : b < 11 := by
    have := Heap.lt_size h
    rwa [absHeap_size] at this
  have h3 : b ≠ 3 := fun q => hn (.inl q)
  have e := boot_lt b hb h3 P
  cases g : (T0 P).get b with
  | none =>
    exfalso
    match b, hb with
    | 0, _ => cases g
    | 1, _ => cases g
    | 2, _ => cases g
    | 3, _ => cases g
    | 4, _ => cases g
    | 5, _ => cases g
    | 6, _ => cases g
    | 7, _ => cases g
    | 8, _ => cases g
    | 9, _ => cases g
    | 10, _ => cases g
    | n + 11, h => exact absurd h (Nat.not_lt.mpr (Nat.le_add_left 11 n))
  | some x =>
    have a1 := abs_get (life := {}) hb g
    have a2 := abs_get (life := {}) (n := 196) (Nat.lt_of_lt_of_le hb (by decide)) (e.trans g)
    rw [a2, ← a1]; exact h
theorem ns_main0 (P : Params) : (h0 P).isNs mainGlobals = true := by kernel_rfl
theorem looks_ok (P : Params) : Looks0 pw (h0 P) (hF P) := ⟨ns_main P, ns_blt P, ns_main0 P, acc_ok P, stat_ok P, names_ok P, laid_ok P, bmain_ok P, blt_ok P, old_ok P⟩
theorem law_at (P : Params) : (hF P).nsMap mainGlobals (Str.ofString "law") = some (.ref 195) := by kernel_rfl
theorem obj_at (P : Params) : (TF P).get 195 = some (oF_195 P) := by kernel_rfl
theorem the_def : pw.theDef (Str.ofString "law") = some (sArgs (dT 16), sBody (dT 16), sScope (dT 16)) := by kernel_rfl
theorem no_dflt : (sArgs (dT 16)).defaults = [] ∧ kwWritten? (sArgs (dT 16)).kwonlyargs (sArgs (dT 16)).kw_defaults = some [] := ⟨by kernel_rfl, by kernel_rfl⟩
theorem def_ok (P : Params) : isTheDefsW pw (hF P) (Str.ofString "law") := by
  have hg : (hF P).get? 195 = some (oF_195 P) := (abs_get (by decide) (obj_at P)).trans rfl
  exact ⟨195, oF_195 P, _, _, _, _, (Pin.globalOf_eq (ns_main P) _).trans (law_at P), hg, rfl, the_def, rfl, rfl, rfl, rfl, rfl, rfl, rfl, rfl, .inl ⟨no_dflt.1, rfl⟩, [], no_dflt.2, .inl ⟨rfl, rfl⟩⟩
theorem open_eq : opening pw = plainProg pw.main.scope.names := by kernel_rfl
theorem fence_eq (s : Shared) : fenceModules? pw s = some s := by kernel_rfl
theorem abs0 (w : World) (os : OsState) : (S0 w.params os).abs = ⟨boot_heap w.params, #[], boot_drawn, boot_toks, os⟩ := by rw [boot_eq]; rfl
theorem said_r1 : readsOut PySem.Challenge.rw_nb0274_02.prog PySem.Challenge.rw_nb0274_02.prog.main.body "vars" = false := (congrFun (congrFun (congrFun Fast.te13343964577679436407 _) _) _).trans (by kernel_rfl)
theorem said_r2 : readsOut PySem.Challenge.rw_nb0274_02.prog PySem.Challenge.rw_nb0274_02.prog.main.body "dir" = false := (congrFun (congrFun (congrFun Fast.te13343964577679436407 _) _) _).trans (by kernel_rfl)
theorem said_r3 : readsOut PySem.Challenge.rw_nb0274_02.prog PySem.Challenge.rw_nb0274_02.prog.main.body "locals" = false := (congrFun (congrFun (congrFun Fast.te13343964577679436407 _) _) _).trans (by kernel_rfl)
theorem said_bare : (["vars", "dir", "locals"] : List Str).filter (readsOut PySem.Challenge.rw_nb0274_02.prog PySem.Challenge.rw_nb0274_02.prog.main.body) = [] := by
  rw [List.filter_cons_of_neg (by rw [said_r1]; decide), List.filter_cons_of_neg (by rw [said_r2]; decide), List.filter_cons_of_neg (by rw [said_r3]; decide), List.filter_nil]
theorem said_looks : looksOpen PySem.Challenge.rw_nb0274_02.prog = true := by
  refine look_both (look_both (look_both (look_both (look_both ?_ ?_) ?_) ?_) ?_) ?_
  · decide +kernel
  · decide +kernel
  · exact (congrFun Fast.te8377067652309620493 _).trans (by decide +kernel)
  · decide +kernel
  · rw [said_bare]
    exact (congrFun (congrFun Fast.te8326940854005059898 _) _).trans (by decide +kernel)
  · exact (congrFun (congrFun (congrFun Fast.te17119622794617984870 _) _) _).trans (by rw [Fast.te17868728402115742887]; decide +kernel)
theorem said_part : PySem.Challenge.rw_nb0274_02.row.partSaid = true := by
  refine look_both (look_both (look_both (look_both (look_both (look_both (look_both (look_both (look_both (look_both (look_both (look_both (look_both said_looks ?_) ?_) ?_) ?_) ?_) ?_) ?_) ?_) ?_) ?_) ?_) ?_) ?_
  all_goals decide +kernel
theorem said_row : PySem.Challenge.rw_nb0274_02.row.wellSaid = true := by
  refine look_both (look_both said_part ?_) ?_
  all_goals decide +kernel
theorem said_ok : PySem.Challenge.rw_nb0274_02.wellSaid = true := by
  refine look_both (look_both (look_both (look_both (look_both (look_both (look_both (look_both (look_both (look_both (look_both (look_both (look_both (look_both (look_both (look_both (look_both (look_both said_row ?_) ?_) ?_) ?_) ?_) ?_) ?_) ?_) ?_) ?_) ?_) ?_) ?_) ?_) ?_) ?_) ?_) ?_
  all_goals decide +kernel
theorem holds_of (hcall : ∀ w os, CallOk pw w (.ref 195) (SF w.params os).abs) : PySem.Challenge.rw_nb0274_02.Holds := by
  refine holds_law said_ok fun said => ?_
  exact law_gen (l := PySem.Challenge.rw_nb0274_02) (f := fun _ => .ref 195) (S0 := fun w os => S0 w.params os) (SF := fun w os => SF w.params os) rfl rfl rfl said ⟨[.list []], by decide +kernel, by decide +kernel⟩ ⟨rfl, rfl, rfl, rfl, rfl, by decide +kernel⟩ (by decide +kernel) open_eq fence_eq abs0 top_ok (fun _ _ => rfl) (fun _ _ => ⟨rfl, rfl⟩) (fun _ _ => rfl) (fun _ _ => rfl) (fun w _ => looks_ok w.params) (fun w _ => def_ok w.params) (fun w _ => law_at w.params) hcall
end
end L02

end
noncomputable section
/-! plain facts about tab stops: cells, counts, columns (natural numbers) -/
namespace Mine.Ws

/-- the greatest cell -/
def mx : List Nat → Nat
  | [] => 0
  | c :: cs => max c (mx cs)
theorem le_mx {c : Nat} : ∀ {cs : List Nat}, c ∈ cs → c ≤ mx cs
  | d :: cs, h => by
    rcases List.mem_cons.mp h with rfl | h
    · exact Nat.le_max_left _ _
    · exact Nat.le_trans (le_mx h) (Nat.le_max_right _ _)
theorem mx_mem : ∀ {cs : List Nat}, cs ≠ [] → mx cs ∈ cs
  | [c], _ => by simp [mx]
  | c :: d :: cs, _ => by
    have := mx_mem (cs := d :: cs) (by simp)
    unfold mx
    by_cases h : c ≤ mx (d :: cs)
    · rw [Nat.max_eq_right h]; exact List.mem_cons_of_mem _ this
    · rw [Nat.max_eq_left (by omega)]; exact .head _

/-- how many closed cells there are of each width -/
def counts (cs : List Nat) : List Nat := if cs = [] then [] else (List.range (mx cs + 1)).map fun j => cs.count j
theorem counts_getD (cs : List Nat) (j : Nat) : (counts cs).getD j 0 = cs.count j := by
  unfold counts
  by_cases h : cs = []
  · simp [h]
  · rw [if_neg h, List.getD_eq_getElem?_getD, List.getElem?_map]
    by_cases hj : j < mx cs + 1
    · rw [List.getElem?_range hj]; rfl
    · rw [List.getElem?_eq_none (by rw [List.length_range]; omega)]
      simp only [Option.map_none, Option.getD_none]
      refine (List.count_eq_zero.mpr fun q => ?_).symm
      have := le_mx q
      omega
theorem counts_length (cs : List Nat) : (counts cs).length = if cs = [] then 0 else mx cs + 1 := by
  unfold counts; split <;> simp_all
theorem counts_eq_iff {cs ds : List Nat} : counts cs = counts ds ↔ ∀ j, cs.count j = ds.count j := by
  constructor
  · intro h j
    rw [← counts_getD, ← counts_getD, h]
  · intro h
    have hp : ∀ j, j ∈ cs ↔ j ∈ ds := fun j => by
      rw [← List.count_pos_iff, ← List.count_pos_iff, h]
    have hn : cs = [] ↔ ds = [] := by
      constructor
      · intro e
        cases ds with
        | nil => rfl
        | cons d ds => have := (hp d).mpr (.head _); rw [e] at this; cases this
      · intro e
        cases cs with
        | nil => rfl
        | cons d cs => have := (hp d).mp (.head _); rw [e] at this; cases this
    by_cases e : cs = []
    · rw [e, hn.mp e]
    · have e' : ds ≠ [] := fun q => e (hn.mpr q)
      have hm : mx cs = mx ds := Nat.le_antisymm (le_mx ((hp _).mp (mx_mem e))) (le_mx ((hp _).mpr (mx_mem e')))
      unfold counts
      rw [if_neg e, if_neg e', hm]
      exact List.map_congr_left fun j _ => h j

/-- the sum of the cells' tab stops -/
def stops (ts : Nat) (cs : List Nat) : Nat := (cs.map (· / ts)).sum
def level (ts : Nat) (cs : List Nat) (b : Nat) : Nat := b + ts * (stops ts cs + cs.length)

theorem sum_add (f g : Nat → Nat) (k : Nat) : ((List.range k).map fun i => f i + g i).sum = ((List.range k).map f).sum + ((List.range k).map g).sum := by
  induction k with
  | zero => rfl
  | succ k ih =>
    simp only [List.range_succ, List.map_append, List.sum_append, List.map_cons, List.map_nil, List.sum_cons, List.sum_nil] at ih ⊢
    omega
theorem sum_swap {α : Type} (f : α → Nat → Nat) (k : Nat) : ∀ cs : List α, (cs.map fun c => ((List.range k).map fun i => f c i).sum).sum = ((List.range k).map fun i => (cs.map fun c => f c i).sum).sum
  | [] => by
    have : ((List.range k).map fun _ : Nat => 0).sum = 0 := by
      induction k with
      | zero => rfl
      | succ k ih => rw [List.range_succ, List.map_append, List.sum_append, ih]; rfl
    simpa using this.symm
  | c :: cs => by
    simp only [List.map_cons, List.sum_cons, sum_swap f k cs]
    exact (sum_add (fun i => f c i) (fun i => (cs.map fun c => f c i).sum) k).symm
theorem stops_big {ts : Nat} {cs : List Nat} (h : mx cs < ts) : stops ts cs = 0 := by
  unfold stops
  have : ∀ c ∈ cs, c / ts = 0 := fun c hc => Nat.div_eq_of_lt (Nat.lt_of_le_of_lt (le_mx hc) h)
  rw [List.map_congr_left this]
  clear this h
  induction cs with
  | nil => rfl
  | cons c cs ih => simpa using ih
theorem sum_zero (k : Nat) : ((List.range k).map fun _ => 0).sum = 0 := by
  induction k with
  | zero => rfl
  | succ k ih => rw [List.range_succ, List.map_append, List.sum_append, ih]; rfl
/-! the sum over the counts -/
theorem stops_counts (ts : Nat) (cs : List Nat) : ∀ k, mx cs < k → stops ts cs = ((List.range k).map fun i => i / ts * cs.count i).sum := by
  induction cs with
  | nil =>
    intro k _
    have : ∀ k : Nat, ((List.range k).map fun i => i / ts * ([] : List Nat).count i).sum = 0 := by
      intro k
      induction k with
      | zero => rfl
      | succ k ih => rw [List.range_succ, List.map_append, List.sum_append, ih]; simp
    rw [this]; rfl
  | cons c cs ih =>
    intro k hk
    have hk' : mx cs < k := Nat.lt_of_le_of_lt (Nat.le_max_right _ _) hk
    have hck : c < k := Nat.lt_of_le_of_lt (Nat.le_max_left _ _) hk
    have e : stops ts (c :: cs) = c / ts + stops ts cs := rfl
    rw [e, ih k hk']
    have split : ∀ i, i / ts * (c :: cs).count i = (if i = c then c / ts else 0) + i / ts * cs.count i := fun i => by
      rw [List.count_cons]
      by_cases q : c = i
      · subst q; simp [Nat.mul_add, Nat.add_comm]
      · have : ¬ i = c := fun z => q z.symm
        simp [q, this]
    have : ((List.range k).map fun i => i / ts * (c :: cs).count i) = (List.range k).map fun i => (if i = c then c / ts else 0) + i / ts * cs.count i := List.map_congr_left fun i _ => split i
    rw [this, sum_add]
    congr 1
    clear split this ih hk hk' e
    induction k with
    | zero => omega
    | succ k ih =>
      rw [List.range_succ, List.map_append, List.sum_append]
      by_cases q : c = k
      · subst q
        have z : ((List.range c).map fun i => if i = c then c / ts else 0).sum = 0 := by
          have : ∀ i ∈ List.range c, (if i = c then c / ts else 0) = 0 := fun i hi => by
            rw [if_neg]; have := List.mem_range.mp hi; omega
          rw [List.map_congr_left this]
          exact sum_zero c
        rw [z]; simp
      · rw [← ih (by omega)]
        have : ¬ k = c := fun z => q z.symm
        simp [this]
end Mine.Ws

end
noncomputable section
open PySem PySem.W PyProof.Rows
set_option Elab.async false
namespace Mine

/-- plain data: what the laws' values are -/
inductive PV where
  | none
  | bool (b : Bool)
  | int (i : Int)
  | str (x : Str)
  | list (xs : List PV)
  | tup (xs : List PV)
  | obj (fields : List (Str × PV))
  | tab (l : List (Int × Int))


/-- an object with its fields -/
structure InstIs (h : Heap) (C a dx : Addr) (m : Str → Option Value) : Prop where
  inst : ∃ o, h.get? a = some o ∧ o.cls = .ref C ∧ (∀ c, o.data ≠ .cls c) ∧ o.dict = some dx
  ne : dx ≠ a
  ns : h.Ns1 dx m
theorem InstIs.is {h : Heap} {C a dx : Addr} {m : Str → Option Value} (x : InstIs h C a dx m) : h.Inst a C m := let ⟨o, h1, h2, h3, h4⟩ := x.inst; ⟨o, h1, h2, h3, .inr ⟨dx, h4, x.ne, x.ns⟩⟩
theorem InstIs.at {h h' : Heap} {C a dx : Addr} {m : Str → Option Value} (x : InstIs h C a dx m) (k1 : ∀ o, h.get? a = some o → h'.get? a = some o) (k2 : ∀ o, h.get? dx = some o → h'.get? dx = some o) : InstIs h' C a dx m :=
  ⟨let ⟨o, h1, h2⟩ := x.inst; ⟨o, k1 o h1, h2⟩, x.ne, x.ns.at k2⟩

/-- a dict of ints, as its entries stand -/
def entryI (e : DictEntry) (p : Int × Int) : Bool := match e.key, e.val with
  | .int k _, .int x _ => k == p.1 && x == p.2 && e.hash == hashInt p.1
  | _, _ => false
def entriesI : List DictEntry → List (Int × Int) → Bool
  | [], [] => true
  | e :: es, p :: ps => entryI e p && entriesI es ps
  | _, _ => false
def TabI (h : Heap) (a : Addr) (l : List (Int × Int)) : Prop := ∃ es n, h.get? a = some { cls := .type "dict", data := .dict es n } ∧ (a == sysModules) = false ∧ entriesI es.toList l = true ∧ (l.map (·.1)).Nodup
theorem TabI.at {h h' : Heap} {a : Addr} {l : List (Int × Int)} (x : TabI h a l) (k : ∀ o, h.get? a = some o → h'.get? a = some o) : TabI h' a l := let ⟨es, n, h1, h2⟩ := x; ⟨es, n, k _ h1, h2⟩

mutual
/-- a value stands for a datum in a heap; none of its objects lies in X; instances are of the class C -/
inductive Rep (C : Addr) (X : Addr → Prop) (h : Heap) : Value → PV → Prop
  | none : Rep C X h .none .none
  | bool (b) : Rep C X h (.bool b) (.bool b)
  | int (i t) : Rep C X h (.int i t) (.int i)
  | str (x t) : Rep C X h (.str x t) (.str x)
  | list {a vs xs} : ¬ X a → h.PlainList a vs → RepL C X h vs.toList xs → Rep C X h (.ref a) (.list xs)
  | tup {a vs xs} : ¬ X a → h.IsTuple a vs → RepL C X h vs.toList xs → Rep C X h (.ref a) (.tup xs)
  | obj {a dx m fs} : ¬ X a → ¬ X dx → InstIs h C a dx m → (∀ x, fs.lookup x = Option.none → m x = Option.none) → RepF C X h m fs → Rep C X h (.ref a) (.obj fs)
  | tab {a l} : ¬ X a → TabI h a l → Rep C X h (.ref a) (.tab l)
inductive RepL (C : Addr) (X : Addr → Prop) (h : Heap) : List Value → List PV → Prop
  | nil : RepL C X h [] []
  | cons {v vs d ds} : Rep C X h v d → RepL C X h vs ds → RepL C X h (v :: vs) (d :: ds)
inductive RepF (C : Addr) (X : Addr → Prop) (h : Heap) : (Str → Option Value) → List (Str × PV) → Prop
  | nil {m} : RepF C X h m []
  | cons {m x v d fs} : m x = some v → Rep C X h v d → RepF C X h m fs → RepF C X h m ((x, d) :: fs)
end

/-- all that is not in W stands as it stood -/
def KeepBut (W : Addr → Prop) (h h' : Heap) : Prop := ∀ b o, ¬ W b → h.get? b = some o → h'.get? b = some o
theorem KeepBut.refl {W : Addr → Prop} {h : Heap} : KeepBut W h h := fun _ _ _ e => e
theorem KeepBut.trans {W : Addr → Prop} {h h' h'' : Heap} (x : KeepBut W h h') (y : KeepBut W h' h'') : KeepBut W h h'' := fun b o hb e => y b o hb (x b o hb e)
theorem KeepBut.mono {W W' : Addr → Prop} {h h' : Heap} (x : KeepBut W h h') (hw : ∀ b, W b → W' b) : KeepBut W' h h' := fun b o hb e => x b o (fun q => hb (hw b q)) e

theorem isList_keep {h h' : Heap} {a : Addr} {vs : Array Value} (x : h.IsList a vs) (k : ∀ o, h.get? a = some o → h'.get? a = some o) : h'.IsList a vs := let ⟨o, ho, r⟩ := x; ⟨o, k o ho, r⟩
theorem isTuple_keep {h h' : Heap} {a : Addr} {vs : Array Value} (x : h.IsTuple a vs) (k : ∀ o, h.get? a = some o → h'.get? a = some o) : h'.IsTuple a vs := let ⟨o, ho, r⟩ := x; ⟨o, k o ho, r⟩
theorem ns_keep {h h' : Heap} {a : Addr} {m : Str → Option Value} (x : h.Ns a m) (k : ∀ o, h.get? a = some o → h'.get? a = some o) : h'.Ns a m := let ⟨o, es, ep, ho, r⟩ := x; ⟨o, es, ep, k o ho, r⟩

mutual
theorem Rep.keep {C : Addr} {X Y : Addr → Prop} {h h' : Heap} (k : KeepBut X h h') (hy : ∀ b o, ¬ X b → h.get? b = some o → ¬ Y b) : ∀ {v : Value} {d : PV}, Rep C X h v d → Rep C Y h' v d
  | _, _, .none => .none
  | _, _, .bool b => .bool b
  | _, _, .int i t => .int i t
  | _, _, .str x t => .str x t
  | _, _, .list ha hl hr => .list (let ⟨_, ho⟩ := hl; hy _ _ ha ho) (hl.at fun o e => k _ o ha e) (RepL.keep k hy hr)
  | _, _, .tup ha hl hr => .tup (let ⟨_, ho, _⟩ := hl; hy _ _ ha ho) (isTuple_keep hl fun o e => k _ o ha e) (RepL.keep k hy hr)
  | _, _, .obj ha hd hi he hr => .obj (let ⟨_, ho, _⟩ := hi.inst; hy _ _ ha ho) (let ⟨_, _, _, ho, _⟩ := hi.ns; hy _ _ hd ho) (hi.at (fun o e => k _ o ha e) fun o e => k _ o hd e) he (RepF.keep k hy hr)
  | _, _, .tab ha ht => .tab (let ⟨_, _, ho, _⟩ := ht; hy _ _ ha ho) (ht.at fun o e => k _ o ha e)
theorem RepL.keep {C : Addr} {X Y : Addr → Prop} {h h' : Heap} (k : KeepBut X h h') (hy : ∀ b o, ¬ X b → h.get? b = some o → ¬ Y b) : ∀ {vs : List Value} {ds : List PV}, RepL C X h vs ds → RepL C Y h' vs ds
  | _, _, .nil => .nil
  | _, _, .cons a b => .cons (Rep.keep k hy a) (RepL.keep k hy b)
theorem RepF.keep {C : Addr} {X Y : Addr → Prop} {h h' : Heap} (k : KeepBut X h h') (hy : ∀ b o, ¬ X b → h.get? b = some o → ¬ Y b) : ∀ {m : Str → Option Value} {fs : List (Str × PV)}, RepF C X h m fs → RepF C Y h' m fs
  | _, _, .nil => .nil
  | _, _, .cons e a b => .cons e (Rep.keep k hy a) (RepF.keep k hy b)
end

/-- the heap grows: all stands as it stood -/
theorem Rep.grow {C : Addr} {X : Addr → Prop} {h h' : Heap} {v : Value} {d : PV} (k : ∀ b o, h.get? b = some o → h'.get? b = some o) (r : Rep C X h v d) : Rep C X h' v d := r.keep (fun b o _ e => k b o e) (fun _ _ hb _ => hb)
theorem RepL.grow {C : Addr} {X : Addr → Prop} {h h' : Heap} {vs : List Value} {ds : List PV} (k : ∀ b o, h.get? b = some o → h'.get? b = some o) (r : RepL C X h vs ds) : RepL C X h' vs ds := r.keep (fun b o _ e => k b o e) (fun _ _ hb _ => hb)
theorem Rep.weaken {C : Addr} {X Y : Addr → Prop} {h : Heap} {v : Value} {d : PV} (hy : ∀ b, Y b → X b) (r : Rep C X h v d) : Rep C Y h v d := r.keep (fun _ _ _ e => e) (fun b _ hb _ q => hb (hy b q))
theorem RepL.weaken {C : Addr} {X Y : Addr → Prop} {h : Heap} {vs : List Value} {ds : List PV} (hy : ∀ b, Y b → X b) (r : RepL C X h vs ds) : RepL C Y h vs ds := r.keep (fun _ _ _ e => e) (fun b _ hb _ q => hb (hy b q))
theorem RepL.length {C : Addr} {X : Addr → Prop} {h : Heap} : ∀ {vs : List Value} {ds : List PV}, RepL C X h vs ds → vs.length = ds.length
  | _, _, .nil => rfl
  | _, _, .cons _ b => by simp [RepL.length b]
theorem RepL.append {C : Addr} {X : Addr → Prop} {h : Heap} : ∀ {vs ws : List Value} {ds es : List PV}, RepL C X h vs ds → RepL C X h ws es → RepL C X h (vs ++ ws) (ds ++ es)
  | _, _, _, _, .nil, y => y
  | _, _, _, _, .cons a b, y => .cons a (b.append y)
theorem RepL.get {C : Addr} {X : Addr → Prop} {h : Heap} : ∀ {vs : List Value} {ds : List PV}, RepL C X h vs ds → ∀ (i : Nat) (d : PV), ds[i]? = some d → ∃ v, vs[i]? = some v ∧ Rep C X h v d
  | _, _, .nil, i, d, e => by simp at e
  | _, _, .cons a b, 0, d, e => by simp at e; subst e; exact ⟨_, rfl, a⟩
  | _, _, .cons a b, i + 1, d, e => by simpa using RepL.get b i d (by simpa using e)
theorem RepL.take {C : Addr} {X : Addr → Prop} {h : Heap} : ∀ {vs : List Value} {ds : List PV} (n : Nat), RepL C X h vs ds → RepL C X h (vs.take n) (ds.take n)
  | _, _, 0, _ => by simpa using .nil
  | _, _, n + 1, .nil => by simpa using .nil
  | _, _, n + 1, .cons a b => by simpa using .cons a (RepL.take n b)
theorem RepL.drop {C : Addr} {X : Addr → Prop} {h : Heap} : ∀ {vs : List Value} {ds : List PV} (n : Nat), RepL C X h vs ds → RepL C X h (vs.drop n) (ds.drop n)
  | _, _, 0, r => by simpa using r
  | _, _, n + 1, .nil => by simpa using .nil
  | _, _, n + 1, .cons a b => by simpa using RepL.drop n b
end Mine

end
noncomputable section
open PySem PySem.W PyProof.Rows
set_option Elab.async false
namespace Mine

/-- the names of a block as its heap has them -/
structure Frm (env : Env) (h : Heap) (m : Str → Option Value) : Prop where
  kind : env.scope.kind = .function
  loc : ∃ ml, h.Ns env.locals ml ∧ ∀ x, env.kindOf x = some .local → ml x = m x
  cel : ∀ x, env.kindOf x = some .cell ∨ env.kindOf x = some .free → ∃ c, env.cells.lookup x = some c ∧ h.IsCell c (m x)

def isVar : Option NameKind → Bool
  | some .local | some .cell | some .free => true
  | _ => false
/-- the places that a block's own names lie at -/
def Priv (env : Env) (b : Addr) : Prop := b = env.locals ∨ ∃ x, env.cells.lookup x = some b
structure Apart (env : Env) : Prop where
  inj : ∀ x y c, env.cells.lookup x = some c → env.cells.lookup y = some c → x = y
  off : ∀ x c, env.cells.lookup x = some c → c ≠ env.locals

theorem Frm.keep {env : Env} {h h' : Heap} {m : Str → Option Value} (F : Frm env h m) (k : ∀ b o, Priv env b → h.get? b = some o → h'.get? b = some o) : Frm env h' m := by
  refine ⟨F.kind, ?_, fun x hx => ?_⟩
  · obtain ⟨ml, hn, he⟩ := F.loc
    exact ⟨ml, ns_keep hn fun o e => k _ o (.inl rfl) e, he⟩
  · obtain ⟨c, hc, o, ho, hd⟩ := F.cel x hx
    exact ⟨c, hc, o, k _ o (.inr ⟨x, hc⟩) ho, hd⟩

section
variable {prog : Program} {w : World} {A : Around} {E : Value → Shared → Prop} {s : Shared}

theorem name_load {env : Env} {m : Str → Option Value} {x : Str} {pos : Pos} {v : Value} {Q : Value → Shared → Prop} (F : Frm env s.heap m) (hk : isVar (env.kindOf x) = true) (hv : m x = some v)
    (hd : (x == ("__debug__" : Str)) = false) (hd' : (x == ("__classdict__" : Str)) = false) (h : Q v s) : wpAny (model prog w) A (eval (.Name x pos) env) Q E s := by
  refine wpAny_Name ?_ hd
  cases hkx : env.kindOf x with
  | none => rw [hkx] at hk; cases hk
  | some k =>
    cases k with
    | «local» =>
      obtain ⟨ml, hn, he⟩ := F.loc
      exact wpAny_loadName_local F.kind hkx hn ((he x hkx).trans hv) h
    | cell =>
      obtain ⟨c, hc, hcell⟩ := F.cel x (.inl hkx)
      rw [hv] at hcell
      exact wpAny_loadName_cell F.kind hkx hc hcell h
    | free =>
      obtain ⟨c, hc, hcell⟩ := F.cel x (.inr hkx)
      rw [hv] at hcell
      exact wpAny_loadName_free F.kind hkx hc hcell h hd'
    | _ => rw [hkx] at hk; cases hk

theorem name_store {env : Env} {m : Str → Option Value} {x : Str} {v : Value} {Q : Unit → Shared → Prop} (F : Frm env s.heap m) (P : Apart env) (hk : env.kindOf x = some .local ∨ env.kindOf x = some .cell)
    (h : ∀ h' tk, Frm env h' (fun y => if y = x then some v else m y) → KeepBut (Priv env) s.heap h' → (∀ b o, s.heap.get? b = some o → ∃ o', h'.get? b = some o') → Q () { s with heap := h', toks := tk }) : wpAny (model prog w) A (storeName env x v) Q E s := by
  rcases hk with hk | hk
  · obtain ⟨ml, hn, he⟩ := F.loc
    refine wpAny_storeName_local hk hn (fun h' hn' hs => h h' _ ⟨F.kind, ⟨_, hn', fun y hy => ?_⟩, fun y hy => ?_⟩ (fun b o hb e => ?_) (fun b o e => ?_)) (by rw [F.kind]; rfl)
    · by_cases q : y = x
      · rw [if_pos q, if_pos q]
      · rw [if_neg q, if_neg q]; exact he y hy
    · obtain ⟨c, hc, o, ho, hd⟩ := F.cel y hy
      have hne : c ≠ env.locals := P.off y c hc
      have hyx : y ≠ x := fun q => by subst q; rw [hk] at hy; rcases hy with q | q <;> cases q
      exact ⟨c, hc, o, (hs.2 c hne).trans ho, by rw [if_neg hyx]; exact hd⟩
    · exact (hs.2 b fun q => hb (.inl q)).trans e
    · by_cases q : b = env.locals
      · subst q; obtain ⟨o', _, _, ho', _⟩ := hn'; exact ⟨o', ho'⟩
      · exact ⟨o, (hs.2 b q).trans e⟩
  · obtain ⟨c, hc, hcell⟩ := F.cel x (.inl hk)
    refine wpAny_storeName_cell F.kind hk hc hcell fun h' hc' hs => h h' _ ⟨F.kind, ?_, fun y hy => ?_⟩ (fun b o hb e => ?_) (fun b o e => ?_)
    · obtain ⟨ml, hn, he⟩ := F.loc
      refine ⟨ml, hn.sameBut hs (P.off x c hc).symm, fun y hy => ?_⟩
      have hyx : y ≠ x := fun q => by subst q; rw [hk] at hy; cases hy
      rw [if_neg hyx]; exact he y hy
    · by_cases q : y = x
      · subst q
        exact ⟨c, hc, by rw [if_pos rfl]; exact hc'⟩
      · obtain ⟨c', h1, o, ho, hd⟩ := F.cel y hy
        have hne : c' ≠ c := fun z => q (P.inj y x c (z ▸ h1) hc)
        exact ⟨c', h1, o, (hs.2 c' hne).trans ho, by rw [if_neg q]; exact hd⟩
    · exact (hs.2 b fun q => hb (.inr ⟨x, q ▸ hc⟩)).trans e
    · by_cases q : b = c
      · subst q; obtain ⟨o', ho', _⟩ := hc'; exact ⟨o', ho'⟩
      · exact ⟨o, (hs.2 b q).trans e⟩
end
end Mine

end
noncomputable section
open PySem PySem.W PyProof.Rows
set_option Elab.async false
namespace Mine

/-- all that stood stands; nothing else of the state but the tokens may differ -/
structure Grow (s s' : Shared) : Prop where
  heap : ∀ b o, s.heap.get? b = some o → s'.heap.get? b = some o
  gens : s'.gens = s.gens
  drawn : s'.drawn = s.drawn
  os : s'.os = s.os
theorem Grow.refl (s : Shared) : Grow s s := ⟨fun _ _ e => e, rfl, rfl, rfl⟩
theorem Grow.trans {s s' s'' : Shared} (x : Grow s s') (y : Grow s' s'') : Grow s s'' := ⟨fun b o e => y.heap b o (x.heap b o e), y.gens.trans x.gens, y.drawn.trans x.drawn, y.os.trans x.os⟩
theorem Grow.toks (s : Shared) (t : Nat) : Grow s { s with toks := t } := ⟨fun _ _ e => e, rfl, rfl, rfl⟩
theorem Grow.mk' {s : Shared} {h' : Heap} {t : Nat} (k : ∀ b o, s.heap.get? b = some o → h'.get? b = some o) : Grow s { s with heap := h', toks := t } := ⟨k, rfl, rfl, rfl⟩

/-- what every state of the call has: the built-ins and the module's names -/
structure Std (mg mb : Str → Option Value) (h : Heap) : Prop where
  b : h.Ns builtinsNs mb
  g : h.Ns mainGlobals mg
end Mine

end
noncomputable section
open PySem PySem.W PyProof.Rows
set_option Elab.async false
namespace Mine

def small (n : Nat) : Bool := Nat.ble n 4096
def smallI (i : Int) : Bool := Nat.ble i.natAbs 4294967296
theorem small_le {n : Nat} (h : small n = true) : n ≤ 4096 := Nat.le_of_ble_eq_true h
theorem smallI_le {i : Int} (h : smallI i = true) : i.natAbs ≤ 4294967296 := Nat.le_of_ble_eq_true h

/-- a list of ints, of texts -/
def ints? : List PV → Option (List Int)
  | [] => some []
  | .int i :: r => match ints? r with
    | some ns => some (i :: ns)
    | none => none
  | _ :: _ => none
def strs? : List PV → Option (List Str)
  | [] => some []
  | .str x :: r => match strs? r with
    | some ns => some (x :: ns)
    | none => none
  | _ :: _ => none
theorem strs_map : ∀ {xs : List PV} {ns : List Str}, strs? xs = some ns → xs = ns.map PV.str
  | [], ns, h => by simp only [strs?, Option.some.injEq] at h; subst h; rfl
  | .str i :: r, ns, h => by
    simp only [strs?] at h
    cases e : strs? r with
    | none => rw [e] at h; cases h
    | some ms => rw [e] at h; simp only [Option.some.injEq] at h; subst h; rw [List.map_cons, ← strs_map e]
  | .none :: _, _, h | .bool _ :: _, _, h | .int _ :: _, _, h | .list _ :: _, _, h | .tup _ :: _, _, h | .obj _ :: _, _, h | .tab _ :: _, _, h => by simp [strs?] at h
theorem strs_of_map (ns : List Str) : strs? (ns.map PV.str) = some ns := by
  induction ns with
  | nil => rfl
  | cons n ns ih => simp [strs?, ih]
theorem RepL.ints {C : Addr} {X : Addr → Prop} {h : Heap} : ∀ {vs : List Value} {ns : List Int}, RepL C X h vs (ns.map PV.int) → IntsAre vs ns := by
  intro vs ns
  induction ns generalizing vs with
  | nil => intro r; cases r; exact .nil
  | cons n ns ih =>
    intro r
    rw [List.map_cons] at r
    cases r with | cons a b =>
    cases a with | int _ t => exact .cons n t (ih b)
theorem RepL.strs {C : Addr} {X : Addr → Prop} {h : Heap} : ∀ {vs : List Value} {ns : List Str}, RepL C X h vs (ns.map PV.str) → StrsAre vs ns := by
  intro vs ns
  induction ns generalizing vs with
  | nil => intro r; cases r; exact .nil
  | cons n ns ih =>
    intro r
    rw [List.map_cons] at r
    cases r with | cons a b =>
    cases a with | str _ t => exact .cons n t (ih b)
theorem intsRep {C : Addr} {X : Addr → Prop} {h : Heap} : ∀ {vs : List Value} {ns : List Int}, IntsAre vs ns → RepL C X h vs (ns.map PV.int)
  | _, _, .nil => .nil
  | _, _, .cons n t b => .cons (.int n t) (intsRep b)

/-- the operators -/
def binPV : Operator → PV → PV → Option PV
  | .Add, .int a, .int b => some (.int (a + b))
  | .Sub, .int a, .int b => some (.int (a - b))
  | .Mult, .int a, .int b => if smallI a then some (.int (a * b)) else none
  | .FloorDiv, .int a, .int b => if b != 0 && smallI b then some (.int (a.fdiv b)) else none
  | .Mod, .int a, .int b => if b != 0 then some (.int (a.fmod b)) else none
  | .Add, .str x, .str y => if small (x.length + y.length) then some (.str (x ++ y)) else none
  | .Mult, .str x, .int n => if small x.length && smallI n && small (x.length * n.toNat) then some (.str (Txt.mul x n)) else none
  | .Add, .list xs, .list ys => if small (xs.length + ys.length) then some (.list (xs ++ ys)) else none
  | _, _, _ => none

theorem natAbs_log2 {i : Int} (h : i.natAbs ≤ 4294967296) : i.natAbs.log2 ≤ 32 := by
  by_cases z : i.natAbs = 0
  · rw [z]; decide
  · have h2 : i.natAbs < 2 ^ 33 := Nat.lt_of_le_of_lt h (by decide)
    have := (Nat.log2_lt z).mpr h2
    omega

section
variable {prog : Program} {w : World} {A : Around} {E : Value → Shared → Prop} {s : Shared} {C : Addr} {X : Addr → Prop} {mg mb : Str → Option Value}

theorem mul_ok {x : Str} {n : Int} (h1 : x.length ≤ 4096) (h2 : n.natAbs ≤ 4294967296) (h3 : x.length * n.toNat ≤ 4096) : MulOk x n := by
  refine ⟨?_, fun hn hx => ?_, fun hn hx => ?_⟩
  · simp only [Bool.or_eq_false_iff, decide_eq_false_iff_not]
    constructor <;> omega
  · have hp : (0 : Int) < n := by omega
    have : (x.length : Int) ≤ (2 ^ 63 - 1) / n := by
      rw [Int.le_ediv_iff_mul_le hp]
      have e : (x.length : Int) * n = ((x.length * n.toNat : Nat) : Int) := by
        rw [Int.natCast_mul, Int.toNat_of_nonneg (by omega)]
      rw [e]
      omega
    omega
  · unfold Builtin.Str.tooLong
    simp only [decide_eq_false_iff_not]
    rw [sizeLine_eq]
    omega

/-- a list as the operators see it: its items stand for data; it itself may be private -/
def WList (C : Addr) (X : Addr → Prop) (h : Heap) (v : Value) (xs : List PV) : Prop := ∃ a vs, v = .ref a ∧ h.IsList a vs ∧ RepL C X h vs.toList xs
theorem Rep.wlist {h : Heap} {v : Value} {xs : List PV} (r : Rep C X h v (.list xs)) : WList C X h v xs := by
  cases r with | list _ hl hr => exact ⟨_, _, rfl, hl.isList, hr⟩
theorem isList_push {h : Heap} {vs : List Value} : (h.push { cls := .type "list", data := .seq vs.toArray }).PlainList h.objs.size vs.toArray := ⟨_, Heap.get?_push_size _ rfl⟩
theorem isTuple_push {h : Heap} {vs : List Value} : (h.push { cls := .type "tuple", data := .seq vs.toArray }).IsTuple h.objs.size vs.toArray := ⟨_, Heap.get?_push_size _ rfl, rfl, _, rfl⟩
/-- the private places stand -/
def Stand (X : Addr → Prop) (h : Heap) : Prop := ∀ b, X b → ∃ o, h.get? b = some o
theorem Stand.keep {h h' : Heap} (x : Stand X h) (k : ∀ b o, h.get? b = some o → h'.get? b = some o) : Stand X h' := fun b hb => let ⟨o, ho⟩ := x b hb; ⟨o, k b o ho⟩
theorem Stand.size {h : Heap} (x : Stand X h) : ¬ X h.objs.size := fun q => let ⟨_, ho⟩ := x _ q; Nat.lt_irrefl _ (Heap.lt_size ho)

/-- two lists joined: the state, exactly -/
theorem add_push {l b : Addr} {vs ws : List Value} {Q : Value → Shared → Prop} (hl : s.heap.IsList l vs.toArray) (hb : s.heap.IsList b ws.toArray) (hsz : vs.length + ws.length ≤ sizeLine)
    (h : Q (.ref s.heap.objs.size) { s with heap := s.heap.push { cls := .type "list", data := .seq (vs ++ ws).toArray } }) : wpAny (model prog w) A (binaryOp .Add (.ref l) (.ref b)) Q E s := by
  obtain ⟨⟨cls, dd, data, sl⟩, ho, hc, n, hd⟩ := id hl
  obtain ⟨⟨cls2, dd2, data2, sl2⟩, ho2, hc2, n2, hd2⟩ := id hb
  simp only at hc hd hc2 hd2
  subst hc hd hc2 hd2
  have e : vs.toArray ++ ws.toArray = (vs ++ ws).toArray := by simp
  refine concat_meets ⟨_, ho, rfl⟩ ⟨_, ho2, rfl⟩ noFill_list_add seq_list_add PySem.F.slot_list_add PySem.F.entry_list_add (PySem.F.args_list_add_2 _ _) (list_addW l b vs.toArray ws.toArray n n2 dd dd2 sl sl2 (by simpa using hsz)) ⟨ho, ho2, ?_⟩
  rw [e]
  exact h
theorem add_lists {v u : Value} {xs ys : List PV} {Q : Value → Shared → Prop} (S : Std mg mb s.heap) (hX : Stand X s.heap) (hv : WList C X s.heap v xs) (hu : WList C X s.heap u ys) (hz : xs.length + ys.length ≤ 4096)
    (h : ∀ v s', Grow s s' → Rep C X s'.heap v (.list (xs ++ ys)) → Q v s') : wpAny (model prog w) A (binaryOp .Add v u) Q E s := by
  obtain ⟨a, vs, rfl, hl, hr⟩ := hv
  obtain ⟨b, us, rfl, hl', hr'⟩ := hu
  have h1 := hr.length
  have h2 := hr'.length
  have k : ∀ b o, s.heap.get? b = some o → (s.heap.push { cls := .type "list", data := .seq (vs.toList ++ us.toList).toArray }).get? b = some o := fun b o e => Heap.get?_push_of_some _ e
  refine add_push (vs := vs.toList) (ws := us.toList) (by simpa using hl) (by simpa using hl') (by rw [sizeLine_eq]; omega) (h _ _ ⟨k, rfl, rfl, rfl⟩ (.list hX.size ⟨_, Heap.get?_push_size _ rfl⟩ ?_))
  simpa using (hr.append hr').grow k

theorem RepL.replicate {h : Heap} {vs : List Value} {ds : List PV} (r : RepL C X h vs ds) : ∀ n : Nat, RepL C X h (List.replicate n vs).flatten (List.replicate n ds).flatten
  | 0 => .nil
  | n + 1 => by rw [List.replicate_succ, List.replicate_succ, List.flatten_cons, List.flatten_cons]; exact r.append (r.replicate n)

theorem bin_ok {op : Operator} {v u : Value} {a b d : PV} {Q : Value → Shared → Prop} (S : Std mg mb s.heap) (hX : Stand X s.heap) (hv : Rep C X s.heap v a ∨ ∃ xs, a = .list xs ∧ WList C X s.heap v xs) (hu : Rep C X s.heap u b) (he : binPV op a b = some d)
    (h : ∀ v s', Grow s s' → Rep C X s'.heap v d → Q v s') : wpAny (model prog w) A (binaryOp op v u) Q E s := by
  have hv' : ∀ {d : PV}, (∀ xs, d ≠ .list xs) → a = d → Rep C X s.heap v d := fun hd e => by
    rcases hv with r | ⟨xs, e', _⟩
    · exact e ▸ r
    · exact absurd (e.symm.trans e') (hd xs)
  have hl : ∀ {xs : List PV}, a = .list xs → WList C X s.heap v xs := fun e => by
    rcases hv with r | ⟨xs, e', hw⟩
    · exact (e ▸ r).wlist
    · rw [e] at e'; cases e'; exact hw
  unfold binPV at he
  split at he
  · cases hv' (by simp) rfl; cases hu; cases he
    exact add_int (h _ _ (Grow.toks _ _) (.int _ _))
  · cases hv' (by simp) rfl; cases hu; cases he
    exact sub_int (h _ _ (Grow.toks _ _) (.int _ _))
  · split at he
    · rename_i hs
      cases hv' (by simp) rfl; cases hu; cases he
      refine mul_int (h _ _ (Grow.toks _ _) (.int _ _)) (IntMulOk.of_left ?_)
      have := natAbs_log2 (smallI_le hs)
      unfold Builtin.Int.intBits
      split <;> omega
    · cases he
  · split at he
    · rename_i hs
      rw [Bool.and_eq_true] at hs
      cases hv' (by simp) rfl; cases hu; cases he
      refine floordiv_int (by simpa using hs.1) (h _ _ (Grow.toks _ _) (.int _ _)) (.inl ?_)
      have := natAbs_log2 (smallI_le hs.2)
      unfold Builtin.divisionGoesByPylong
      simp only [Bool.and_eq_false_iff, decide_eq_false_iff_not]
      left
      split <;> omega
    · cases he
  · split at he
    · rename_i hs
      cases hv' (by simp) rfl; cases hu; cases he
      exact mod_int' (by simpa using hs) (h _ _ (Grow.toks _ _) (.int _ _))
    · cases he
  · split at he
    · rename_i hs
      cases hv' (by simp) rfl; cases hu; cases he
      exact add_str (fun t tk => h _ _ (Grow.toks _ _) (.str _ _)) (Nat.le_trans (small_le hs) (by rw [sizeLine_eq]; decide))
    · cases he
  · split at he
    · rename_i hs
      simp only [Bool.and_eq_true] at hs
      cases hv' (by simp) rfl; cases hu; cases he
      exact SB.mul (mul_ok (small_le hs.1.1) (smallI_le hs.1.2) (small_le hs.2)) (fun t tk => h _ _ (Grow.toks _ _) (.str _ _))
    · cases he
  · split at he
    · rename_i hs
      cases he
      exact add_lists S hX (hl rfl) hu.wlist (small_le hs) h
    · cases he
  · cases he

theorem mul_wlist {v : Value} {xs : List PV} {n : Int} {t : Tok} {Q : Value → Shared → Prop} (S : Std mg mb s.heap) (hX : Stand X s.heap) (hl : WList C X s.heap v xs) (h1 : small (xs.length * n.toNat) = true) (h2 : smallI n = true) (h3 : (ints? xs).isSome = true)
    (h : ∀ v s', Grow s s' → WList C X s'.heap v (List.replicate n.toNat xs).flatten → Q v s') : wpAny (model prog w) A (binaryOp .Mult v (.int n t)) Q E s := by
  obtain ⟨l, vs, rfl, hli, hr⟩ := hl
  have hlen := hr.length
  rw [Array.length_toList] at hlen
  have h3 := smallI_le h2
  have h4 := small_le h1
  obtain ⟨⟨cls, d, data, sl⟩, ho, hcl, k, hd⟩ := id hli
  simp only at hcl hd
  subst hcl hd
  have hsz' : vs.size * n.toNat ≤ 2 ^ 24 := by rw [hlen]; omega
  refine wpAny_binaryOp_repeat_ref (T := "list") (U := "int") (by decide) ⟨_, ho, rfl⟩ (fun s' => typeIs_int s' n t) noFill_list_mul PySem.F.fills_int_mul PySem.F.slot_int_rmul repeat_list PySem.F.slot_int_index.lookup
    (call_meets PySem.F.slot_int_rmul (typeIs_int s n t) PySem.F.entry_int_rmul (PySem.F.args_int_rmul_2 _ _) (lm_int_rmul_list_any n t l vs k d sl)
      ⟨ho, rfl, ⟨_, ho, rfl⟩, call_meets PySem.F.slot_list_mul ⟨_, ho, rfl⟩ PySem.F.entry_list_mul (PySem.F.args_list_mul_2 _ _)
        (lm_list_mul_any l vs k d sl n t (by simp [Builtin.List.listFitsIndex]; omega) (by omega) (by simp [Builtin.List.listTooLong, sizeLine]; omega))
        ⟨ho, ?_⟩⟩)
  have kk : ∀ b o, s.heap.get? b = some o → (s.heap.push { cls := Value.type "list", data := Data.seq (List.foldl (fun x1 x2 => x1 ++ x2) #[] (List.replicate (if vs.isEmpty = true then 0 else n.toNat) vs)) }).get? b = some o := fun b o e => Heap.get?_push_of_some _ e
  refine h _ _ ⟨kk, rfl, rfl, rfl⟩ ⟨_, _, rfl, ⟨_, Heap.get?_push_size _ rfl, rfl, _, rfl⟩, ?_⟩
  have e := (hr.replicate n.toNat).grow kk
  rw [show (List.foldl (fun x1 x2 => x1 ++ x2) #[] (List.replicate (if vs.isEmpty = true then 0 else n.toNat) vs)).toList = (List.replicate n.toNat vs.toList).flatten by rw [listMul_foldl_if]]
  exact e
/-- two lists joined: a new one -/
theorem add_fresh {v u : Value} {xs ys : List PV} {Q : Value → Shared → Prop} (S : Std mg mb s.heap) (hX : Stand X s.heap) (hv : WList C X s.heap v xs) (hu : WList C X s.heap u ys) (hz : xs.length + ys.length ≤ 4096)
    (h : ∀ a vs s', Grow s s' → s.heap.get? a = none → s'.heap.PlainList a vs → RepL C (fun b => X b ∨ b = a) s'.heap vs.toList (xs ++ ys) → Q (.ref a) s') : wpAny (model prog w) A (binaryOp .Add v u) Q E s := by
  obtain ⟨a, vs, rfl, hl, hr⟩ := hv
  obtain ⟨b, us, rfl, hl', hr'⟩ := hu
  have h1 := hr.length
  have h2 := hr'.length
  have hn : s.heap.get? s.heap.objs.size = none := by cases e : s.heap.get? s.heap.objs.size with | none => rfl | some o => exact absurd (Heap.lt_size e) (Nat.lt_irrefl _)
  have k : ∀ b o, s.heap.get? b = some o → (s.heap.push { cls := .type "list", data := .seq (vs.toList ++ us.toList).toArray }).get? b = some o := fun b o e => Heap.get?_push_of_some _ e
  refine add_push (vs := vs.toList) (ws := us.toList) (by simpa using hl) (by simpa using hl') (by rw [sizeLine_eq]; omega) (h _ _ _ ⟨k, rfl, rfl, rfl⟩ hn ⟨_, Heap.get?_push_size _ rfl⟩ ?_)
  simpa using (hr.append hr').keep (fun b o _ e => k b o e) fun b o hb e q => q.elim hb fun z => by rw [z, hn] at e; cases e
end
end Mine

end
noncomputable section
open PySem PySem.W PyProof.Rows
set_option Elab.async false
namespace Mine

def mapO {α β : Type} (f : α → Option β) : List α → Option (List β)
  | [] => some []
  | x :: xs => match f x, mapO f xs with
    | some d, some ds => some (d :: ds)
    | _, _ => none
def pyd0 : PV → Option PyData
  | .none => some .none
  | .bool b => some (.bool b)
  | .int i => some (.int i)
  | .str x => if PyData.strOk x then some (.str x) else none
  | _ => none
/-- the data that == looks at -/
def pyd : Nat → PV → Option PyData
  | 0, d => pyd0 d
  | n + 1, .list xs => match mapO (pyd n) xs with
    | some ds => some (.list ds)
    | none => none
  | n + 1, .tup xs => match mapO (pyd n) xs with
    | some ds => some (.tuple ds)
    | none => none
  | _ + 1, d => pyd0 d

theorem pyd0_reads {C : Addr} {X : Addr → Prop} {h : Heap} {v : Value} {d : PV} {e : PyData} (r : Rep C X h v d) (he : pyd0 d = some e) : (∃ as, Reads h v e as) ∧ e.canLay0 = true ∧ e.depth = 0 := by
  cases r with
  | none => cases he; exact ⟨⟨_, .none⟩, rfl, rfl⟩
  | bool b => cases he; exact ⟨⟨_, .bool b⟩, rfl, rfl⟩
  | int i t => cases he; exact ⟨⟨_, .int i t⟩, rfl, rfl⟩
  | str x t =>
    simp only [pyd0] at he
    split at he
    · rename_i hx
      cases he; exact ⟨⟨_, .str x t⟩, hx, rfl⟩
    · cases he
  | list => simp [pyd0] at he
  | tup => simp [pyd0] at he
  | obj => simp [pyd0] at he
  | tab => simp [pyd0] at he
theorem mapO_reads {C : Addr} {X : Addr → Prop} {h : Heap} {n : Nat} (ih : ∀ {v : Value} {d : PV} {e : PyData}, Rep C X h v d → pyd n d = some e → (∃ as, Reads h v e as) ∧ e.canLay0 = true ∧ e.depth ≤ n) :
    ∀ {vs : List Value} {xs : List PV} {es : List PyData}, RepL C X h vs xs → mapO (pyd n) xs = some es → (∃ as, ReadsAll h vs es as) ∧ PyData.canLayAll0 es = true ∧ PyData.depthAll es ≤ n
  | _, _, es, .nil, he => by simp only [mapO, Option.some.injEq] at he; subst he; exact ⟨⟨_, .nil⟩, rfl, Nat.zero_le _⟩
  | _, _, es, .cons (d := d) (ds := ds) a b, he => by
    simp only [mapO] at he
    cases q1 : pyd n d with
    | none => rw [q1] at he; cases he
    | some x =>
      cases q2 : mapO (pyd n) ds with
      | none => rw [q1, q2] at he; cases he
      | some xs =>
        rw [q1, q2] at he
        cases he
        obtain ⟨⟨as, r⟩, c1, c2⟩ := ih a q1
        obtain ⟨⟨bs, r'⟩, c3, c4⟩ := mapO_reads ih b q2
        exact ⟨⟨_, .cons r r'⟩, by rw [PyData.canLayAll0, c1, c3]; rfl, by rw [PyData.depthAll]; exact Nat.max_le.mpr ⟨c2, c4⟩⟩
theorem pyd_reads {C : Addr} {X : Addr → Prop} {h : Heap} : ∀ (n : Nat) {v : Value} {d : PV} {e : PyData}, Rep C X h v d → pyd n d = some e → (∃ as, Reads h v e as) ∧ e.canLay0 = true ∧ e.depth ≤ n
  | 0, _, _, e, r, he => let ⟨a, b, c⟩ := pyd0_reads r he; ⟨a, b, Nat.le_of_eq c⟩
  | n + 1, _, _, e, r, he => by
    cases r with
    | list ha hl hr =>
      rename_i xs
      simp only [pyd] at he
      cases q : mapO (pyd n) xs with
      | none => rw [q] at he; cases he
      | some ds =>
        rw [q] at he
        cases he
        obtain ⟨⟨as, r⟩, c1, c2⟩ := mapO_reads (pyd_reads n) hr q
        obtain ⟨o, ho, hc, k, hd⟩ := hl.isList
        exact ⟨⟨_, .list ho hc hd r⟩, c1, Nat.succ_le_succ c2⟩
    | tup ha hl hr =>
      rename_i xs
      simp only [pyd] at he
      cases q : mapO (pyd n) xs with
      | none => rw [q] at he; cases he
      | some ds =>
        rw [q] at he
        cases he
        obtain ⟨⟨as, r⟩, c1, c2⟩ := mapO_reads (pyd_reads n) hr q
        obtain ⟨o, ho, hc, k, hd⟩ := hl
        exact ⟨⟨_, .tuple ho hc hd r⟩, c1, Nat.succ_le_succ c2⟩
    | none => let ⟨a, b, c⟩ := pyd0_reads (C := C) (X := X) (h := h) .none he; exact ⟨a, b, by omega⟩
    | bool x => let ⟨a, b, c⟩ := pyd0_reads (C := C) (X := X) (h := h) (.bool x) he; exact ⟨a, b, by omega⟩
    | int x t => let ⟨a, b, c⟩ := pyd0_reads (C := C) (X := X) (h := h) (.int x t) he; exact ⟨a, b, by omega⟩
    | str x t => let ⟨a, b, c⟩ := pyd0_reads (C := C) (X := X) (h := h) (.str x t) he; exact ⟨a, b, by omega⟩
    | obj => simp [pyd, pyd0] at he
    | tab => simp [pyd, pyd0] at he

def eqPV (a b : PV) : Option Bool := match pyd 3 a, pyd 3 b with
  | some x, some y => some (PyData.eqv x y)
  | _, _ => none
def cmpPV : CmpOp → PV → PV → Option Bool
  | .Eq, a, b => eqPV a b
  | .NotEq, a, b => match eqPV a b with
    | some r => some (!r)
    | none => none
  | .Lt, .int a, .int b => some (decide (a < b))
  | .LtE, .int a, .int b => some (decide (a ≤ b))
  | .Gt, .int a, .int b => some (decide (b < a))
  | .GtE, .int a, .int b => some (decide (b ≤ a))
  | .IsNot, .none, .none => some false
  | .IsNot, .str _, .none => some true
  | .In, .str x, .list ys => match strs? ys with
    | some zs => some (zs.any fun y => y == x)
    | none => none
  | _, _, _ => none

section
variable {prog : Program} {w : World} {A : Around} {E : Value → Shared → Prop} {s : Shared} {C : Addr} {X : Addr → Prop}
theorem cmp_ok {op : CmpOp} {v u : Value} {a b : PV} {r : Bool} {Q : Value → Shared → Prop} (hA : A.units + 3 < cLine) (hv : Rep C X s.heap v a) (hu : Rep C X s.heap u b) (he : cmpPV op a b = some r) (h : Q (.bool r) s) :
    wpAny (model prog w) A (compareOp op v u) Q E s := by
  unfold cmpPV at he
  split at he
  · unfold eqPV at he
    cases q1 : pyd 3 a with
    | none => rw [q1] at he; cases he
    | some x =>
      cases q2 : pyd 3 b with
      | none => rw [q1, q2] at he; cases he
      | some y =>
        rw [q1, q2] at he
        cases he
        obtain ⟨⟨as, r1⟩, c1, d1⟩ := pyd_reads 3 hv q1
        obtain ⟨⟨bs, r2⟩, c2, d2⟩ := pyd_reads 3 hu q2
        exact SeqAt.compareEq_reads r1 r2 c1 c2 (by have := Nat.min_le_left x.depth y.depth; omega) h
  · split at he
    · rename_i z hz
      unfold eqPV at hz
      cases q1 : pyd 3 a with
      | none => rw [q1] at hz; cases hz
      | some x =>
        cases q2 : pyd 3 b with
        | none => rw [q1, q2] at hz; cases hz
        | some y =>
          rw [q1, q2] at hz
          cases hz
          cases he
          obtain ⟨⟨as, r1⟩, c1, d1⟩ := pyd_reads 3 hv q1
          obtain ⟨⟨bs, r2⟩, c2, d2⟩ := pyd_reads 3 hu q2
          exact SeqAt.compareNe_reads r1 r2 c1 c2 (by have := Nat.min_le_left x.depth y.depth; omega) h
    · cases he
  · cases hv; cases hu; cases he; exact lt_int h
  · cases hv; cases hu; cases he; exact le_int h
  · cases hv; cases hu; cases he; exact PyProof.Rows.gt_int h
  · cases hv; cases hu; cases he; exact PyProof.Rows.ge_int h
  · cases hv; cases hu; cases he; exact wpAny_pure h
  · cases hv; cases hu; cases he; exact isnot_str_none h
  · split at he
    · rename_i zs hz
      cases he
      obtain rfl := strs_map hz
      cases hv
      cases hu with
      | list _ hl hr => exact in_list_strs (by simpa using hl.isList) hr.strs h
    · cases he
  · cases he
end
end Mine

end
noncomputable section
open PySem PySem.W PyProof.Rows
set_option Elab.async false
namespace Mine

def itemPV : PV → Int → Option PV
  | .list xs, i => if smallI i then (match seqIndex? i xs.length with | some k => xs[k]? | none => none) else none
  | .tup xs, i => if smallI i then (match seqIndex? i xs.length with | some k => xs[k]? | none => none) else none
  | .str x, i => if smallI i then (match (seqIndex? i x.length).bind (x.cps[·]?) with | some c => some (.str ⟨#[c]⟩) | none => none) else none
  | _, _ => none

/-- what a slice takes -/
def cut {α : Type} (lo hi : Option Int) (xs : List α) : List α :=
  let n : Int := xs.length
  let clip (v : Option Int) (dflt : Int) : Nat := (match v with | none => dflt | some i => max 0 (min (if i < 0 then i + n else i) n)).toNat
  (xs.take (clip hi n)).drop (clip lo 0)
def cutPV : PV → Option Int → Option Int → Option PV
  | .list xs, lo, hi => if small xs.length then some (.list (cut lo hi xs)) else none
  | .str x, lo, hi => if small x.length then some (.str ⟨(cut lo hi x.cps.toList).toArray⟩) else none
  | _, _, _ => none

theorem seqIndex_spec {i : Int} {n k : Nat} (h : seqIndex? i n = some k) : (0 ≤ i ∧ i.toNat = k ∧ k < n) ∨ (i < 0 ∧ -(n : Int) ≤ i ∧ (i + n).toNat = k ∧ k < n) := by
  unfold seqIndex? at h
  by_cases z : i < 0
  · simp only [z, if_true] at h
    by_cases q : (decide (0 ≤ i + (n : Int)) && decide (i + (n : Int) < n)) = true
    · rw [if_pos q] at h
      simp only [Bool.and_eq_true, decide_eq_true_eq] at q
      simp only [Option.some.injEq] at h
      right; omega
    · rw [if_neg q] at h; cases h
  · simp only [z, if_false] at h
    by_cases q : (decide (0 ≤ i) && decide (i < (n : Int))) = true
    · rw [if_pos q] at h
      simp only [Bool.and_eq_true, decide_eq_true_eq] at q
      simp only [Option.some.injEq] at h
      left; omega
    · rw [if_neg q] at h; cases h

section
variable {prog : Program} {w : World} {A : Around} {E : Value → Shared → Prop} {s : Shared} {C : Addr} {X : Addr → Prop}

theorem subscripted_eq (slice : Expr) (o i : Value) : ∃ ops, subscripted slice false o i = operate ops (getItem o i) := by
  unfold subscripted
  split
  · exact ⟨_, rfl⟩
  · rename_i h; cases h
  · exact ⟨_, rfl⟩

theorem item_list {value slice : Expr} {v : Value} {xs : List PV} {i : Int} {u : Tok} {k : Nat} {d : PV} {Q : Value → Shared → Prop} (hw : WList C X s.heap v xs) (hs : i.natAbs ≤ 4294967296) (hk : seqIndex? i xs.length = some k) (hd : xs[k]? = some d)
    (h : ∀ v, Rep C X s.heap v d → Q v s) : wpAny (model prog w) A (subscriptTail value slice v (.int i u)) Q E s := by
  obtain ⟨a, vs, rfl, hl, hr⟩ := hw
  obtain ⟨x, hx, hrx⟩ := hr.get k d hd
  obtain ⟨ops, ho⟩ := subscripted_eq slice (.ref a) (.int i u)
  have hlen : vs.size = xs.length := by rw [← hr.length, Array.length_toList]
  have hx' : vs[k]? = some x := by rw [← Array.getElem?_toList]; exact hx
  refine tail_any hl.typeIs slot_list_getitem.lookup ?_ ho
  rcases seqIndex_spec hk with ⟨h0, hk', _⟩ | ⟨h0, h1, hk', _⟩
  · exact wpAny_getItem_list hl h0 (by omega) (by rw [hk']; exact hx') (h _ hrx)
  · exact wpAny_getItem_list_neg hl h0 (by rw [hlen]; exact h1) (by omega) (by rw [hlen, hk']; exact hx') (h _ hrx)

theorem item_ok {value slice : Expr} {v : Value} {a d : PV} {i : Int} {u : Tok} {Q : Value → Shared → Prop} (hv : Rep C X s.heap v a ∨ ∃ xs, a = .list xs ∧ WList C X s.heap v xs) (he : itemPV a i = some d)
    (h : ∀ v s', Grow s s' → Rep C X s'.heap v d → Q v s') : wpAny (model prog w) A (subscriptTail value slice v (.int i u)) Q E s := by
  unfold itemPV at he
  split at he
  · rename_i xs
    split at he
    · rename_i hs
      split at he
      · rename_i k hk
        have hw : WList C X s.heap v xs := by
          rcases hv with r | ⟨ys, e, hw⟩
          · exact r.wlist
          · cases e; exact hw
        exact item_list hw (smallI_le hs) hk he fun v r => h v s (.refl s) r
      · cases he
    · cases he
  · rename_i xs
    split at he
    · rename_i hs
      split at he
      · rename_i k hk
        have hr : Rep C X s.heap v (.tup xs) := by
          rcases hv with r | ⟨ys, e, hw⟩
          · exact r
          · cases e
        cases hr with
        | tup hna hl hr =>
          rename_i a vs
          obtain ⟨x, hx, hrx⟩ := hr.get k d he
          obtain ⟨ops, ho⟩ := subscripted_eq slice (.ref a) (.int i u)
          have hlen : vs.size = xs.length := by rw [← hr.length, Array.length_toList]
          have h3 := smallI_le hs
          exact tail_any (T := "tuple") (let ⟨o, ho, hc, _⟩ := hl; ⟨o, ho, hc⟩) slot_tuple_getitem.lookup (PyProof.Rows.getItem_tuple hl (by omega) (by omega) (by rw [hlen]; exact hk) (by rw [← Array.getElem?_toList]; exact hx) (h _ _ (.refl s) hrx)) ho
      · cases he
    · cases he
  · rename_i x
    split at he
    · rename_i hs
      split at he
      · rename_i c hc
        cases he
        have hr : Rep C X s.heap v (.str x) := by
          rcases hv with r | ⟨ys, e, hw⟩
          · exact r
          · cases e
        cases hr with
        | str _ t =>
          obtain ⟨ops, ho⟩ := subscripted_eq slice (.str x t) (.int i u)
          have h3 := smallI_le hs
          exact tail_any (T := "str") (typeIs_str s x t) slot_str_getitem.lookup (PyProof.Rows.getItem_str (by simp only [Bool.or_eq_false_iff, decide_eq_false_iff_not]; constructor <;> omega) hc (h _ _ (Grow.toks _ _) (.str _ _))) ho
      · cases he
    · cases he
  · cases he
end
end Mine

end
noncomputable section
open PySem PySem.W PyProof.Rows
set_option Elab.async false
namespace Mine
theorem range_take {α : Type} (xs : List α) : ∀ (c a : Nat), a + c ≤ xs.length → ((List.range c).map fun k => a + k).filterMap (xs[·]?) = (xs.drop a).take c
  | 0, a, _ => by simp
  | c + 1, a, h => by
    rw [List.range_succ, List.map_append, List.filterMap_append, range_take xs c a (by omega)]
    have hlt : a + c < xs.length := by omega
    rw [List.take_add_one, List.getElem?_drop]
    simp [List.getElem?_eq_getElem hlt]
theorem sliceRange_nat (a b : Nat) : sliceRange (a : Int) (b : Int) 1 = (List.range (b - a)).map fun k => a + k := by
  unfold sliceRange
  have e : (if (1 : Int) > 0 then (if (a : Int) < b then ((b : Int) - a + 1 - 1) / 1 else 0) else (if (a : Int) > b then ((a : Int) - b - 1 - 1) / (-1) else 0)).toNat = b - a := by
    rw [if_pos (by decide)]
    split
    · rw [Int.ediv_one]; omega
    · omega
  simp only [e]
  refine List.map_congr_left fun k _ => ?_
  omega
theorem pick_cut {α : Type} (xs : List α) (a b : Nat) (hb : b ≤ xs.length) : (sliceRange (a : Int) (b : Int) 1).filterMap (xs[·]?) = (xs.take b).drop a := by
  rw [sliceRange_nat, List.drop_take]
  by_cases h : a ≤ b
  · exact range_take xs (b - a) a (by omega)
  · have : b - a = 0 := by omega
    rw [this]; simp
/-- one bound of a slice -/
def clipB (n : Nat) (v : Option Int) (dflt : Nat) : Nat := match v with
  | none => dflt
  | some i => (max 0 (min (if i < 0 then i + (n : Int) else i) (n : Int))).toNat
theorem clip_le {n : Nat} {v : Option Int} {d : Nat} (hd : d ≤ n) : clipB n v d ≤ n := by
  unfold clipB
  cases v with
  | none => exact hd
  | some i => simp only; omega
theorem cut_eq {α : Type} (lo hi : Option Int) (xs : List α) : cut lo hi xs = (xs.take (clipB xs.length hi xs.length)).drop (clipB xs.length lo 0) := by
  unfold cut clipB
  cases lo <;> cases hi <;> simp
theorem clip_int {n : Nat} {v : Option Int} {d : Nat} : ((clipB n v d : Nat) : Int) = (match v with | none => (d : Int) | some i => max 0 (min (if i < 0 then i + (n : Int) else i) (n : Int))) := by
  unfold clipB
  cases v with
  | none => rfl
  | some i => simp only; omega
theorem strIdx {lo hi : Option Int} {n : Nat} : Builtin.Str.strSliceIndices lo hi 1 n = sliceRange ((clipB n lo 0 : Nat) : Int) ((clipB n hi n : Nat) : Int) 1 := by
  unfold Builtin.Str.strSliceIndices
  rw [clip_int, clip_int]
  cases lo <;> cases hi <;> simp
theorem bounds_eq {lo hi : Option Int} {n : Nat} : sliceBounds lo hi none n = (((clipB n lo 0 : Nat) : Int), ((clipB n hi n : Nat) : Int), 1) := by
  unfold sliceBounds
  rw [clip_int, clip_int]
  cases lo <;> cases hi <;> simp
theorem slicePick_cut (items : Array Value) (lo hi : Option Int) : (slicePick items lo hi none).toList = cut lo hi items.toList := by
  unfold slicePick
  rw [bounds_eq]
  simp only
  rw [cut_eq, Array.length_toList, ← pick_cut items.toList _ _ (by rw [Array.length_toList]; exact clip_le (Nat.le_refl _))]
  simp
theorem RepL.cut {C : Addr} {X : Addr → Prop} {h : Heap} {vs : List Value} {ds : List PV} (r : RepL C X h vs ds) (lo hi : Option Int) : RepL C X h (Mine.cut lo hi vs) (Mine.cut lo hi ds) := by
  rw [cut_eq, cut_eq, r.length]
  exact (r.take _).drop _

section
variable {prog : Program} {w : World} {A : Around} {E : Value → Shared → Prop} {s : Shared} {C : Addr} {X : Addr → Prop}

def partV : Option (Int × Tok) → Value
  | none => .none
  | some (i, t) => .int i t
theorem partV_eq (l : Option (Int × Tok)) : partV l = partValue l := by cases l <;> rfl
theorem isPart {l : Option (Int × Tok)} : IsPart (partV l) (l.map (·.1)) := by
  cases l with
  | none => exact .none
  | some x => exact .int _ _

/-- a slice taken: the slice's own object first -/
theorem cut_ok {value slice : Expr} {v : Value} {a d : PV} {l u : Option (Int × Tok)} {sl : Addr} {Q : Value → Shared → Prop} (hX : Stand X s.heap) (hv : Rep C X s.heap v a ∨ ∃ xs, a = .list xs ∧ WList C X s.heap v xs)
    (hs : s.heap.IsSliceOf sl (partV l) (partV u) .none) (he : cutPV a (l.map (·.1)) (u.map (·.1)) = some d)
    (h : ∀ v s', Grow s s' → Rep C X s'.heap v d → Q v s') : wpAny (model prog w) A (subscriptTail value slice v (.ref sl)) Q E s := by
  unfold cutPV at he
  split at he
  · rename_i xs
    split at he
    · rename_i hz
      cases he
      have hw : WList C X s.heap v xs := by
        rcases hv with r | ⟨ys, e, hw⟩
        · exact r.wlist
        · cases e; exact hw
      obtain ⟨a, vs, rfl, hl, hr⟩ := hw
      obtain ⟨ops, ho⟩ := subscripted_eq slice (.ref a) (.ref sl)
      have hlen : vs.size = xs.length := by rw [← hr.length, Array.length_toList]
      refine tail_any hl.typeIs slot_list_getitem.lookup (wpAny_getItem_list_slice (st := none) hl hs isPart isPart .none (by simp) ?_ (by rw [hlen, sizeLine_eq]; have := small_le hz; omega)) ho
      refine h _ _ ⟨fun b o e => Heap.get?_push_of_some _ e, rfl, rfl, rfl⟩ (.list hX.size ⟨_, Heap.get?_push_size _ rfl⟩ ?_)
      rw [slicePick_cut]
      exact (hr.cut _ _).grow fun b o e => Heap.get?_push_of_some _ e
    · cases he
  · rename_i x
    split at he
    · rename_i hz
      cases he
      have hr : Rep C X s.heap v (.str x) := by
        rcases hv with r | ⟨ys, e, hw⟩
        · exact r
        · cases e
      cases hr with
      | str _ t =>
        obtain ⟨ops, ho⟩ := subscripted_eq slice (.str x t) (.ref sl)
        have hs' : s.heap.IsSlice sl l u none := by
          obtain ⟨o, h1, h2, h3⟩ := hs
          exact ⟨o, h1, h2, by rw [h3, partV_eq, partV_eq]; rfl⟩
        have epick : (slicePicked x l u none).filterMap (x.cps[·]?) = cut (l.map (·.1)) (u.map (·.1)) x.cps.toList := by
          unfold slicePicked
          show (Builtin.Str.strSliceIndices _ _ 1 x.length).filterMap _ = _
          rw [strIdx, cut_eq, Array.length_toList]
          have := pick_cut x.cps.toList (clipB x.length (l.map (·.1)) 0) (clipB x.length (u.map (·.1)) x.length) (by rw [Array.length_toList]; exact clip_le (Nat.le_refl _))
          simp only [Array.getElem?_toList] at this
          exact this
        refine tail_any (T := "str") (typeIs_str s x t) slot_str_getitem.lookup (wpAny_getItem_str_slice hs' rfl ?_) ho
        unfold sliceMade
        split
        · rename_i hq
          refine h _ _ (.refl s) ?_
          have hlen : (slicePicked x l u none).length = x.length := by simpa using hq
          have : (⟨(cut (l.map (·.1)) (u.map (·.1)) x.cps.toList).toArray⟩ : Str) = x := by
            rw [cut_eq, Array.length_toList]
            have hp : slicePicked x l u none = (List.range (clipB x.length (u.map (·.1)) x.length - clipB x.length (l.map (·.1)) 0)).map fun k => clipB x.length (l.map (·.1)) 0 + k := by
              unfold slicePicked
              show Builtin.Str.strSliceIndices _ _ 1 x.length = _
              rw [strIdx, sliceRange_nat]
            rw [hp, List.length_map, List.length_range] at hlen
            have h1 : clipB x.length (u.map (·.1)) x.length ≤ x.length := clip_le (Nat.le_refl _)
            by_cases z : x.length = 0
            · have : x.cps.toList = [] := List.length_eq_zero_iff.mp (by rw [Array.length_toList]; exact z)
              rw [this]
              obtain ⟨c⟩ := x
              simp only [Str.mk.injEq]
              simp at this
              rw [this]; simp
            · have e1 : clipB x.length (l.map (·.1)) 0 = 0 := by omega
              have e2 : clipB x.length (u.map (·.1)) x.length = x.length := by omega
              show (⟨((x.cps.toList.take (clipB x.length _ x.length)).drop (clipB x.length _ 0)).toArray⟩ : Str) = x
              rw [e1, e2]
              obtain ⟨c⟩ := x
              show (⟨((c.toList.take c.size).drop 0).toArray⟩ : Str) = ⟨c⟩
              rw [List.drop_zero, List.take_of_length_le (by simp)]
          rw [this]
          exact .str x t
        · have hle : (cut (l.map (·.1)) (u.map (·.1)) x.cps.toList).length ≤ x.length := by
            rw [cut_eq, List.length_drop, List.length_take, Array.length_toList]
            show _ ≤ x.cps.size
            omega
          refine ⟨?_, h _ _ (Grow.toks _ _) ?_⟩
          · show (List.toArray _).size ≤ _
            rw [List.size_toArray, epick, sizeLine_eq]
            have := small_le hz
            omega
          · rw [epick]
            exact .str _ _
    · cases he
  · cases he
end
end Mine

end
noncomputable section
open PySem PySem.W PyProof.Rows
set_option Elab.async false
set_option linter.unusedVariables false
namespace Mine

/-- the fixed ground: the program, the world, the class, the heap that the top left -/
structure Par where
  prog : Program
  w : World
  C : Addr
  hB : Heap
  mg : Str → Option Value
  mb : Str → Option Value
  b : hB.Ns builtinsNs mb
  g : hB.Ns mainGlobals mg
  lim : hB.NoLimit

abbrev Rho := List (Str × PV)
def put : Rho → Str → PV → Rho
  | [], x, d => [(x, d)]
  | (y, e) :: r, x, d => if x == y then (y, d) :: r else (y, e) :: put r x d
/-- the names of a block: plain ones, and one that holds a list that the block alone holds -/
structure Nm where
  ρ : Rho
  own : Option (Str × List PV) := none
  me : Option (Str × Addr × Addr × List (Str × PV)) := none

/-- room for k calls more -/
structure Room (k : Nat) (A : Around) : Prop where
  depth : A.depth + k < recursionLimit
  units : A.units + 3 * k + 60 < cLine
  handled : A.handled = none
theorem Room.le {k j : Nat} {A : Around} (r : Room k A) (h : j ≤ k) : Room j A := ⟨by have := r.depth; omega, by have := r.units; omega, r.handled⟩
theorem Room.deeper {k : Nat} {A : Around} (r : Room (k + 1) A) (env : Env) : Room k (A.deeper env) := ⟨by have := r.depth; show A.depth + 1 + k < _; omega, by have := r.units; show A.units + 3 + 3 * k + 60 < _; omega, r.handled⟩

/-- the object that the block is making -/
structure MeAt (C : Addr) (env : Env) (W X : Addr → Prop) (h : Heap) (m : Str → Option Value) (x : Str) (a dx : Addr) (fs : List (Str × PV)) : Prop where
  val : m x = some (.ref a)
  wa : W a
  wd : W dx
  pa : ¬ Priv env a
  pd : ¬ Priv env dx
  inst : ∃ mi, InstIs h C a dx mi ∧ (∀ y, fs.lookup y = none → mi y = none) ∧ RepF C X h mi fs
theorem MeAt.keep {C : Addr} {env : Env} {W W' X Y : Addr → Prop} {h h' : Heap} {m m' : Str → Option Value} {x : Str} {a dx : Addr} {fs : List (Str × PV)} (M : MeAt C env W X h m x a dx fs) (hm : m x = some (.ref a) → m' x = some (.ref a)) (hw : ∀ b, W b → W' b)
    (ka : ∀ o, h.get? a = some o → h'.get? a = some o) (kd : ∀ o, h.get? dx = some o → h'.get? dx = some o) (kX : KeepBut X h h') (hy : ∀ b o, ¬ X b → h.get? b = some o → ¬ Y b) : MeAt C env W' Y h' m' x a dx fs :=
  ⟨hm M.val, hw _ M.wa, hw _ M.wd, M.pa, M.pd, let ⟨mi, h1, h2, h3⟩ := M.inst; ⟨mi, h1.at ka kd, h2, h3.keep kX hy⟩⟩
/-- the block as its heap has it: W the places that it may write, X the places that no datum may lie at -/
structure Good (P : Par) (sc : Scope) (n : Nm) (env : Env) (W X : Addr → Prop) (h : Heap) : Prop where
  scope : env.scope = sc
  globals : env.globals = mainGlobals
  bns : env.builtins = builtinsNs
  base : ∀ b o, P.hB.get? b = some o → h.get? b = some o
  stand : Stand X h
  wx : ∀ b, W b → X b
  wb : ∀ b, W b → P.hB.get? b = none
  priv : ∀ b, Priv env b → W b
  apart : Apart env
  names : ∃ m, Frm env h m ∧ (∀ x d, n.ρ.lookup x = some d → ∃ v, m x = some v ∧ Rep P.C X h v d) ∧
    (∀ x xs, n.own = some (x, xs) → ∃ a vs, m x = some (.ref a) ∧ W a ∧ ¬ Priv env a ∧ h.PlainList a vs ∧ RepL P.C X h vs.toList xs) ∧
    (∀ x a dx fs, n.me = some (x, a, dx, fs) → MeAt P.C env W X h m x a dx fs)
theorem Good.std {P : Par} {sc : Scope} {n : Nm} {env : Env} {W X : Addr → Prop} {h : Heap} (G : Good P sc n env W X h) : Std P.mg P.mb h := ⟨ns_keep P.b fun o e => G.base _ o e, ns_keep P.g fun o e => G.base _ o e⟩
theorem Good.grow {P : Par} {sc : Scope} {n : Nm} {env : Env} {W X : Addr → Prop} {h h' : Heap} (G : Good P sc n env W X h) (k : ∀ b o, h.get? b = some o → h'.get? b = some o) : Good P sc n env W X h' := by
  refine ⟨G.scope, G.globals, G.bns, fun b o e => k b o (G.base b o e), G.stand.keep k, G.wx, G.wb, G.priv, G.apart, ?_⟩
  obtain ⟨m, F, h1, h2, h3⟩ := G.names
  refine ⟨m, F.keep fun b o _ e => k b o e, fun x d e => ?_, fun x xs e => ?_, fun x a dx fs e => (h3 x a dx fs e).keep id (fun _ q => q) (fun o e => k _ o e) (fun o e => k _ o e) (fun b o _ e => k b o e) fun b _ hb _ => hb⟩
  · obtain ⟨v, hv, r⟩ := h1 x d e
    exact ⟨v, hv, r.grow k⟩
  · obtain ⟨a, vs, e1, e2, e3, e4, e5⟩ := h2 x xs e
    exact ⟨a, vs, e1, e2, e3, e4.at fun o q => k _ o q, e5.grow k⟩

/-- a value for an operand: its list may be private -/
def Wv (C : Addr) (X : Addr → Prop) (h : Heap) (v : Value) (d : PV) : Prop := Rep C X h v d ∨ ∃ xs, d = .list xs ∧ WList C X h v xs
theorem Wv.grow {C : Addr} {X : Addr → Prop} {h h' : Heap} {v : Value} {d : PV} (k : ∀ b o, h.get? b = some o → h'.get? b = some o) (r : Wv C X h v d) : Wv C X h' v d := by
  rcases r with r | ⟨xs, e, a, vs, e1, e2, e3⟩
  · exact .inl (r.grow k)
  · exact .inr ⟨xs, e, a, vs, e1, isList_keep e2 fun o q => k _ o q, e3.grow k⟩

/-- an expression gives a datum -/
structure Ev (P : Par) (k : Nat) (sc : Scope) (n : Nm) (e : Expr) (d : PV) : Prop where
  go : ∀ {A : Around} {env : Env} {W X : Addr → Prop} {s : Shared} {E : Value → Shared → Prop} {Q : Value → Shared → Prop}, Room k A → Good P sc n env W X s.heap →
    (∀ v s', Grow s s' → Rep P.C X s'.heap v d → Q v s') → wpAny (model P.prog P.w) A (eval e env) Q E s
structure EvW (P : Par) (k : Nat) (sc : Scope) (n : Nm) (e : Expr) (d : PV) : Prop where
  go : ∀ {A : Around} {env : Env} {W X : Addr → Prop} {s : Shared} {E : Value → Shared → Prop} {Q : Value → Shared → Prop}, Room k A → Good P sc n env W X s.heap →
    (∀ v s', Grow s s' → Wv P.C X s'.heap v d → Q v s') → wpAny (model P.prog P.w) A (eval e env) Q E s
/-- a test gives a truth -/
structure Tv (P : Par) (k : Nat) (sc : Scope) (n : Nm) (e : Expr) (b : Bool) : Prop where
  go : ∀ {A : Around} {env : Env} {W X : Addr → Prop} {s : Shared} {E : Value → Shared → Prop} {Q : Bool → Shared → Prop}, Room k A → Good P sc n env W X s.heap →
    (∀ s', Grow s s' → Q b s') → wpAny (model P.prog P.w) A (isTrue e env (eval e env)) Q E s

section
variable {P : Par} {k : Nat} {sc : Scope} {n : Nm}
theorem Ev.w {e : Expr} {d : PV} (x : Ev P k sc n e d) : EvW P k sc n e d := ⟨fun R G h => x.go R G fun v s' g r => h v s' g (.inl r)⟩
theorem Ev.int (i : Int) (j : Nat) (pos : Pos) : Ev P k sc n (.Constant (.int i) j pos) (.int i) := ⟨fun _ _ h => wpAny_Constant_int (h _ _ (Grow.toks _ _) (.int _ _))⟩
theorem Ev.str (x : Str) (j : Nat) (pos : Pos) : Ev P k sc n (.Constant (.str x) j pos) (.str x) := ⟨fun _ _ h => wpAny_Constant_str (h _ _ (Grow.toks _ _) (.str _ _))⟩
theorem Ev.none (j : Nat) (pos : Pos) : Ev P k sc n (.Constant .none j pos) .none := ⟨fun _ _ h => wpAny_Constant_none (h _ _ (Grow.refl _) .none)⟩
theorem Ev.name {x : Str} {pos : Pos} {d : PV} (hk : isVar (sc.names.lookup x) = true) (hd : n.ρ.lookup x = some d) (h1 : (x == ("__debug__" : Str)) = false) (h2 : (x == ("__classdict__" : Str)) = false) :
    Ev P k sc n (.Name x pos) d := ⟨fun R G h => by
  obtain ⟨m, F, hr, _⟩ := G.names
  obtain ⟨v, hv, r⟩ := hr x d hd
  exact name_load F (by rw [Env.kindOf, G.scope]; exact hk) hv h1 h2 (h _ _ (Grow.refl _) r)⟩
theorem EvW.own {x : Str} {pos : Pos} {xs : List PV} (hk : isVar (sc.names.lookup x) = true) (hd : n.own = some (x, xs)) (h1 : (x == ("__debug__" : Str)) = false) (h2 : (x == ("__classdict__" : Str)) = false) :
    EvW P k sc n (.Name x pos) (.list xs) := ⟨fun R G h => by
  obtain ⟨m, F, _, hr, _⟩ := G.names
  obtain ⟨a, vs, hv, _, _, hl, r⟩ := hr x xs hd
  exact name_load F (by rw [Env.kindOf, G.scope]; exact hk) hv h1 h2 (h _ _ (Grow.refl _) (.inr ⟨xs, rfl, a, vs, rfl, hl.isList, r⟩))⟩

theorem Ev.binW {l r : Expr} {op : Operator} {pos : Pos} {a b d : PV} (hl : EvW P k sc n l a) (hr : Ev P k sc n r b) (he : binPV op a b = some d) : Ev P k sc n (.BinOp l op r pos) d := ⟨fun R G h =>
  wpAny_BinOp (hl.go R G fun v s₁ g₁ r₁ => hr.go R (G.grow g₁.heap) fun u s₂ g₂ r₂ =>
    bin_ok ((G.grow g₁.heap).grow g₂.heap).std ((G.grow g₁.heap).grow g₂.heap).stand (r₁.grow g₂.heap) r₂ he fun v s₃ g₃ r₃ => h _ _ ((g₁.trans g₂).trans g₃) r₃)⟩
theorem Ev.bin {l r : Expr} {op : Operator} {pos : Pos} {a b d : PV} (hl : Ev P k sc n l a) (hr : Ev P k sc n r b) (he : binPV op a b = some d) : Ev P k sc n (.BinOp l op r pos) d := .binW hl.w hr he

theorem Ev.cmp {l r : Expr} {op : CmpOp} {pos : Pos} {a b : PV} {t : Bool} (hl : Ev P k sc n l a) (hr : Ev P k sc n r b) (he : cmpPV op a b = some t) (hm : behindInMarks op r = false) : Ev P k sc n (.Compare l [op] [r] pos) (.bool t) := ⟨fun R G h =>
  wpAny_Compare1 (hl.go R G fun v s₁ g₁ r₁ => hr.go R (G.grow g₁.heap) fun u s₂ g₂ r₂ =>
    cmp_ok (by have := R.units; omega) (r₁.grow g₂.heap) r₂ he (h _ _ (g₁.trans g₂) (.bool t))) hm⟩
theorem Tv.cmp {l r : Expr} {op : CmpOp} {pos : Pos} {a b : PV} {t : Bool} (hl : Ev P k sc n l a) (hr : Ev P k sc n r b) (he : cmpPV op a b = some t) (hm : behindInMarks op r = false) : Tv P k sc n (.Compare l [op] [r] pos) t := ⟨fun R G h =>
  wpAny_isTrue_Compare1 (hl.go R G fun v s₁ g₁ r₁ => hr.go R (G.grow g₁.heap) fun u s₂ g₂ r₂ =>
    cmp_ok (by have := R.units; omega) (r₁.grow g₂.heap) r₂ he (wpAny_truthy_bool (h _ (g₁.trans g₂)))) hm⟩
theorem Tv.not {e : Expr} {pos : Pos} {t : Bool} (h : Tv P k sc n e t) : Tv P k sc n (.UnaryOp .Not e pos) (!t) := ⟨fun R G hq => wpAny_isTrue_Not (h.go R G fun s' g => hq s' g)⟩
/-- tests that are calls or names -/
theorem Tv.val {e : Expr} {t : Bool} (h : Ev P k sc n e (.bool t)) (he : ∀ env whole, isTrue e env whole = (do let v ← whole; standAt e.pos; holding [v] (truthy v))) : Tv P k sc n e t := ⟨fun R G hq =>
  wpAny_isTrue_value (h.go R G fun v s' g r => by cases r; exact wpAny_truthy_bool (hq s' g)) (he _ _)⟩
end
end Mine

end
noncomputable section
open PySem PySem.W PyProof.Rows
set_option Elab.async false
set_option linter.unusedVariables false
namespace Mine

/-- the items of a display -/
structure Evs (P : Par) (k : Nat) (sc : Scope) (n : Nm) (es : List Expr) (ds : List PV) : Prop where
  go : ∀ {A : Around} {env : Env} {W X : Addr → Prop} {s : Shared} {E : Value → Shared → Prop} {pos : Pos} {Q : List Value → Shared → Prop}, Room k A → Good P sc n env W X s.heap →
    (∀ vs s', Grow s s' → RepL P.C X s'.heap vs ds → Q vs s') → wpAny (model P.prog P.w) A (spliced (backTo pos (starEach es env))) Q E s

section
variable {P : Par} {k : Nat} {sc : Scope} {n : Nm}
theorem Evs.nil : Evs P k sc n [] [] := ⟨fun R G h => wpAny_items_nil (h _ _ (Grow.refl _) .nil)⟩
theorem Evs.cons {e : Expr} {es : List Expr} {d : PV} {ds : List PV} (he : Ev P k sc n e d) (hs : Evs P k sc n es ds) (hstar : ∀ env, starEach (e :: es) env = (false, eval e env) :: starEach es env) : Evs P k sc n (e :: es) (d :: ds) := ⟨fun R G h =>
  wpAny_items_cons (he.go R G fun v s₁ g₁ r₁ => hs.go R (G.grow g₁.heap) fun vs s₂ g₂ r₂ => h _ _ (g₁.trans g₂) (.cons (r₁.grow g₂.heap) r₂)) (hstar _)⟩
theorem Ev.list {es : List Expr} {pos : Pos} {ds : List PV} (h : Evs P k sc n es ds) (hz : small ds.length = true) : Ev P k sc n (.List es pos) (.list ds) := ⟨fun R G hq =>
  wpAny_List (h.go R G fun vs s₁ g₁ r₁ => ⟨by rw [r₁.length, sizeLine_eq]; have := small_le hz; omega,
    hq _ _ (g₁.trans ⟨fun b o e => Heap.get?_push_of_some _ e, rfl, rfl, rfl⟩) (.list (G.grow g₁.heap).stand.size isList_push (by simpa using r₁.grow fun b o e => Heap.get?_push_of_some _ e))⟩)⟩
theorem Ev.tup {es : List Expr} {pos : Pos} {j : Nat} {ds : List PV} (h : Evs P k sc n es ds) (hz : small ds.length = true) : Ev P k sc n (.Tuple es j pos) (.tup ds) := ⟨fun R G hq =>
  wpAny_Tuple (h.go R G fun vs s₁ g₁ r₁ => ⟨by rw [r₁.length, sizeLine_eq]; have := small_le hz; omega,
    hq _ _ (g₁.trans ⟨fun b o e => Heap.get?_push_of_some _ e, rfl, rfl, rfl⟩) (.tup (G.grow g₁.heap).stand.size isTuple_push (by simpa using r₁.grow fun b o e => Heap.get?_push_of_some _ e))⟩)⟩

theorem Ev.item {value slice : Expr} {pos : Pos} {a d : PV} {i : Int} (hv : EvW P k sc n value a) (hi : Ev P k sc n slice (.int i)) (he : itemPV a i = some d) : Ev P k sc n (.Subscript value slice pos) d := ⟨fun R G h =>
  Subscript_ (hv.go R G fun v s₁ g₁ r₁ => hi.go R (G.grow g₁.heap) fun u s₂ g₂ r₂ => by
    cases r₂
    exact item_ok (r₁.grow g₂.heap) he fun x s₃ g₃ r₃ => h x s₃ ((g₁.trans g₂).trans g₃) r₃)⟩

/-- one bound of a slice -/
structure Part (P : Par) (k : Nat) (sc : Scope) (n : Nm) (e : Option Expr) (i : Option Int) : Prop where
  go : ∀ {A : Around} {env : Env} {W X : Addr → Prop} {s : Shared} {E : Value → Shared → Prop} {Q : Value → Shared → Prop}, Room k A → Good P sc n env W X s.heap →
    (∀ l : Option (Int × Tok), l.map (·.1) = i → ∀ s', Grow s s' → Q (partV l) s') → wpAny (model P.prog P.w) A (evalPart e env) Q E s
theorem Part.none : Part P k sc n none none := ⟨fun R G h => evalPart_none_step (h Option.none rfl _ (Grow.refl _))⟩
theorem Part.some {e : Expr} {i : Int} (he : Ev P k sc n e (.int i)) : Part P k sc n (some e) (some i) := ⟨fun R G h => evalPart_some_step (he.go R G fun v s' g r => by
  cases r with | int _ t => exact h (Option.some (i, t)) rfl s' g)⟩

theorem Ev.cut {value : Expr} {lo hi : Option Expr} {p pos : Pos} {a d : PV} {i j : Option Int} (hv : EvW P k sc n value a) (hlo : Part P k sc n lo i) (hhi : Part P k sc n hi j) (he : cutPV a i j = some d) :
    Ev P k sc n (.Subscript value (.Slice lo hi Option.none p) pos) d := ⟨fun R G h =>
  Subscript_ (hv.go R G fun v s₁ g₁ r₁ => wpAny_Slice (hlo.go R (G.grow g₁.heap) fun l hl s₂ g₂ => hhi.go R ((G.grow g₁.heap).grow g₂.heap) fun u hu s₃ g₃ => by
    refine evalPart_none_step ?_
    subst hl hu
    have hk : ∀ b o, s₃.heap.get? b = Option.some o → (s₃.heap.push { cls := .type "slice", data := .fields #[partV l, partV u, .none] }).get? b = Option.some o := fun b o e => Heap.get?_push_of_some _ e
    have G' := ((G.grow g₁.heap).grow g₂.heap).grow g₃.heap
    refine cut_ok (G'.grow hk).stand (((r₁.grow g₂.heap).grow g₃.heap).grow hk) (Heap.IsSliceOf.new ..) he fun x s₄ g₄ r₄ => h x s₄ (((g₁.trans g₂).trans g₃).trans ⟨fun b o e => g₄.heap b o (hk b o e), g₄.gens, g₄.drawn, g₄.os⟩) r₄))⟩

theorem Ev.neg {e : Expr} {pos : Pos} {i : Int} (he : Ev P k sc n e (.int i)) : Ev P k sc n (.UnaryOp .USub e pos) (.int (-i)) := ⟨fun R G h =>
  wpAny_UnaryOp (he.go R G fun v s₁ g₁ r₁ => by cases r₁; exact neg_int (h _ _ (g₁.trans (Grow.toks _ _)) (.int _ _)))⟩
theorem Tv.or2 {x y : Expr} {pos : Pos} {t : Bool} (hx : Tv P k sc n x false) (hy : Tv P k sc n y t) : Tv P k sc n (.BoolOp .Or [x, y] pos) t := ⟨fun R G h =>
  wpAny_isTrue_BoolOp (wpAny_allTrue_Or_cons (hx.go R G fun s₁ g₁ => by
    rw [if_neg (by decide)]
    refine wpAny_allTrue_Or_cons (hy.go R (G.grow g₁.heap) fun s₂ g₂ => ?_)
    cases t with
    | true => rw [if_pos rfl]; exact h _ (g₁.trans g₂)
    | false => rw [if_neg (by decide)]; exact wpAny_allTrue_Or_nil (h _ (g₁.trans g₂))))⟩
theorem Ev.and2 {x y : Expr} {pos : Pos} {a b : Bool} (hx : Ev P k sc n x (.bool a)) (hy : a = true → Ev P k sc n y (.bool b)) : Ev P k sc n (.BoolOp .And [x, y] pos) (.bool (a && b)) := ⟨fun R G h =>
  wpAny_And2 (hx.go R G fun v s₁ g₁ r₁ => by
    cases r₁
    refine wpAny_truthy_bool ?_
    cases a with
    | false => rw [if_neg (by decide)]; exact h _ _ g₁ (.bool _)
    | true => rw [if_pos rfl]; exact (hy rfl).go R (G.grow g₁.heap) fun v s₂ g₂ r₂ => h _ _ (g₁.trans g₂) r₂)⟩
end
end Mine

end
noncomputable section
open PySem PySem.W PyProof.Rows PySem.Calls
set_option Elab.async false
set_option linter.unusedVariables false
namespace Mine

/-- a call of a value gives a datum -/
structure Cal (P : Par) (k : Nat) (f : Value) (ds : List PV) (d : PV) : Prop where
  go : ∀ {A : Around} {X : Addr → Prop} {s : Shared} {E : Value → Shared → Prop} {Q : Value → Shared → Prop} {vs : List Value}, Room k A → (∀ b o, P.hB.get? b = some o → s.heap.get? b = some o) → Stand X s.heap → RepL P.C X s.heap vs ds →
    (∀ v s', Grow s s' → Rep P.C X s'.heap v d → Q v s') → wpAny (model P.prog P.w) A (call f vs) Q E s

/-- what a global name holds -/
def Glb (P : Par) (x : Str) (v : Value) : Prop := P.mg x = some v ∨ (P.mg x = none ∧ P.mb x = some v)

section
variable {P : Par} {k : Nat} {sc : Scope} {n : Nm}
theorem glb {A : Around} {env : Env} {W X : Addr → Prop} {s : Shared} {E : Value → Shared → Prop} {Q : Value → Shared → Prop} {x : Str} {pos : Pos} {v : Value} (G : Good P sc n env W X s.heap) (hx : sc.names.lookup x = some .globalImplicit)
    (hv : Glb P x v) (hd : (x == ("__debug__" : Str)) = false) (h : Q v s) : wpAny (model P.prog P.w) A (eval (.Name x pos) env) Q E s := by
  obtain ⟨m, F, _⟩ := G.names
  refine Name_function_global F.kind (by rw [Env.kindOf, G.scope]; exact hx) ?_ hd
  rcases hv with hv | ⟨h1, h2⟩
  · exact loadGlobal_global (by rw [G.globals]; exact G.std.g) hv h
  · exact loadGlobal_builtin (by rw [G.globals]; exact G.std.g) h1 (by rw [G.bns]; exact G.std.b) h2 h

theorem Ev.callB {x : Str} {p pos : Pos} {id : String} {e : Expr} {rest : List Expr} {ds : List PV} {d : PV} (hx : sc.names.lookup x = some .globalImplicit) (hv : Glb P x (.builtin id)) (hd : (x == ("__debug__" : Str)) = false)
    (ha : Evs P k sc n (e :: rest) ds) (hc : Cal P k (.builtin id) ds d) (he : ∀ env, starEach (e :: rest) env = (false, eval e env) :: starEach rest env) (hp : ∀ pos env, (backTo pos (starEach rest env)).any (·.1) = false) :
    Ev P k sc n (.Call (.Name x p) (e :: rest) [] pos) d := ⟨fun R G h =>
  Call_Name rfl (glb G hx hv hd (callWith_builtin1 (ha.go R G fun vs s₁ g₁ r₁ => hc.go R (G.grow g₁.heap).base (G.grow g₁.heap).stand r₁ fun v s₂ g₂ r₂ => h v s₂ (g₁.trans g₂) r₂) (he _) (hp _ _)))⟩
theorem Ev.callF {x : Str} {p pos : Pos} {f : Addr} {o : Obj} {fd : FuncData} {e : Expr} {rest : List Expr} {ds : List PV} {d : PV} (hx : sc.names.lookup x = some .globalImplicit) (hv : Glb P x (.ref f)) (hd : (x == ("__debug__" : Str)) = false)
    (ho : P.hB.get? f = some o) (hf : o.data = .func fd) (ha : Evs P k sc n (e :: rest) ds) (hc : Cal P k (.ref f) ds d) (he : ∀ env, starEach (e :: rest) env = (false, eval e env) :: starEach rest env) :
    Ev P k sc n (.Call (.Name x p) (e :: rest) [] pos) d := ⟨fun R G h =>
  Call_Name rfl (glb G hx hv hd (callWith_def hf (ha.go R G fun vs s₁ g₁ r₁ => ⟨(G.grow g₁.heap).base _ _ ho, hc.go R (G.grow g₁.heap).base (G.grow g₁.heap).stand r₁ fun v s₂ g₂ r₂ => h v s₂ (g₁.trans g₂) r₂⟩) (he _)))⟩
theorem Ev.callF0 {x : Str} {p pos : Pos} {f : Addr} {o : Obj} {fd : FuncData} {d : PV} (hx : sc.names.lookup x = some .globalImplicit) (hv : Glb P x (.ref f)) (hd : (x == ("__debug__" : Str)) = false)
    (ho : P.hB.get? f = some o) (hf : o.data = .func fd) (hc : Cal P k (.ref f) [] d) : Ev P k sc n (.Call (.Name x p) [] [] pos) d := ⟨fun R G h =>
  Call_Name rfl (glb G hx hv hd (callWith_function (o := o) (fd := fd) (PySem.evalArgs_none ⟨⟨G.base _ _ ho, hf⟩, hc.go R G.base G.stand .nil h⟩)))⟩
end
end Mine

end
noncomputable section
open PySem PySem.W PyProof.Rows PySem.Calls
set_option Elab.async false
set_option linter.unusedVariables false
namespace Mine

def owners : List String := ["enumerate", "zip", "dict_itemiterator", "dict_reverseitemiterator", "odict_iterator", "itertools.zip_longest", "itertools.pairwise"]
/-- an iterator that owns no tuple -/
def Plain (I : Addr) (h : Heap) : Prop := ∃ o T, h.get? I = some o ∧ o.cls = .type T ∧ owners.contains T = false
/-- an iterator at I that has ds still to give -/
structure IterAt (P : Par) (X : Addr → Prop) (I : Addr) (ds : List PV) (h : Heap) : Prop where
  it : ∃ (fp : List Addr) (n : Nat) (Pv : Nat → Value → Prop) (St : Nat → Heap → Prop) (i : Nat), (∀ A' : Around, A'.handled = none → Walks P.prog P.w A' I fp [I] n Pv St) ∧ St i h ∧ i + ds.length = n ∧
    (∀ b ∈ fp, b = I ∨ (¬ X b ∧ ∃ o, h.get? b = some o)) ∧ (∀ i h, St i h → Plain I h) ∧ ∀ j d v, ds[j]? = some d → Pv (i + j) v → Rep P.C X h v d

theorem IterAt.keep {P : Par} {X Y : Addr → Prop} {I : Addr} {ds : List PV} {h h' : Heap} (x : IterAt P X I ds h) (k : KeepBut X h h') (hI : ∀ o, h.get? I = some o → h'.get? I = some o) (hy : ∀ b o, ¬ X b → h.get? b = some o → ¬ Y b) : IterAt P Y I ds h' := by
  obtain ⟨fp, n, Pv, St, i, hw, st, hn, hfp, hpl, hr⟩ := x.it
  refine ⟨fp, n, Pv, St, i, hw, (hw { } rfl).frame i h h' st fun b hb o e => ?_, hn, fun b hb => ?_, hpl, fun j d v hj hv => (hr j d v hj hv).keep k hy⟩
  · rcases hfp b hb with q | q
    · subst q; exact hI o e
    · exact k b o q.1 e
  · rcases hfp b hb with q | ⟨q, o, ho⟩
    · exact .inl q
    · exact .inr ⟨hy b o q ho, o, k b o q ho⟩
theorem IterAt.plain {P : Par} {X : Addr → Prop} {I : Addr} {ds : List PV} {h : Heap} (x : IterAt P X I ds h) : Plain I h := by
  obtain ⟨fp, n, Pv, St, i, hw, st, hn, hfp, hpl, hr⟩ := x.it
  exact hpl _ _ st

section
variable {P : Par} {k : Nat} {sc : Scope} {n : Nm} {A : Around} {E : Value → Shared → Prop} {s : Shared} {X : Addr → Prop} {I : Addr}
theorem IterAt.next_nil {Q : Option Value → Shared → Prop} (hA : A.handled = none) (x : IterAt P X I [] s.heap) (h : ∀ h' tk, KeepBut (· = I) s.heap h' → Q none { s with heap := h', toks := tk }) :
    wpAny (model P.prog P.w) A (pyNext (.ref I)) Q E s := by
  obtain ⟨fp, n, Pv, St, i, hw, st, hn, hfp, hpl, hr⟩ := x.it
  rw [List.length_nil, Nat.add_zero] at hn
  subst hn
  exact (hw A hA).done s Q E st fun h' tk hk => h h' tk fun b o hb e => hk b o (by simpa using hb) e
theorem IterAt.next_cons {d : PV} {ds : List PV} {Q : Option Value → Shared → Prop} (hA : A.handled = none) (hX : X I) (x : IterAt P X I (d :: ds) s.heap)
    (h : ∀ v h' tk, KeepBut (· = I) s.heap h' → Rep P.C X h' v d → IterAt P X I ds h' → Q (some v) { s with heap := h', toks := tk }) : wpAny (model P.prog P.w) A (pyNext (.ref I)) Q E s := by
  obtain ⟨fp, n, Pv, St, i, hw, st, hn, hfp, hpl, hr⟩ := x.it
  rw [List.length_cons] at hn
  refine (hw A hA).item i s Q E (by omega) st fun v h' tk hp st' hk => ?_
  have hk' : KeepBut (· = I) s.heap h' := fun b o hb e => hk b o (by simpa using hb) e
  have hkX : KeepBut X s.heap h' := hk'.mono fun b q => by rw [q]; exact hX
  refine h v h' tk hk' ((hr 0 d v rfl (by simpa using hp)).keep hkX fun b _ hb _ => hb) ⟨fp, n, Pv, St, i + 1, hw, st', by omega, (fun b hb => (hfp b hb).imp id fun ⟨q, o, ho⟩ => ⟨q, o, hkX b o q ho⟩), hpl, fun j e u hj hu => ?_⟩
  exact (hr (j + 1) e u (by simpa using hj) (by rw [← Nat.add_assoc, Nat.add_right_comm]; exact hu)).keep hkX fun b _ hb _ => hb
theorem IterAt.self {ds : List PV} {Q : Value → Shared → Prop} (hA : A.handled = none) (x : IterAt P X I ds s.heap) (h : Q (.ref I) s) : wpAny (model P.prog P.w) A (pyIter (.ref I)) Q E s := by
  obtain ⟨fp, n, Pv, St, i, hw, st, hn, hfp, hpl, hr⟩ := x.it
  exact (hw A hA).self i s Q E st h

/-- one sign of a text -/
def signs (x : Str) : List PV := x.cps.toList.map fun c => PV.str ⟨#[c]⟩
theorem size_none {h : Heap} : h.get? h.objs.size = none := by cases e : h.get? h.objs.size with | none => rfl | some o => exact absurd (Heap.lt_size e) (Nat.lt_irrefl _)
theorem iter_str_aux {x : Str} {o : Obj} {St : Nat → Heap → Prop} (hpl : ∀ i h, St i h → Plain s.heap.objs.size h) (hw : ∀ A' : Around, A'.handled = none → Walks P.prog P.w A' s.heap.objs.size [s.heap.objs.size] [s.heap.objs.size] x.cps.size (SignAt x) St) (st : St 0 (s.heap.push o)) {Q : Value → Shared → Prop}
    (h : ∀ I s', Grow s s' → s.heap.get? I = none → IterAt P (fun b => X b ∨ b = I) I (signs x) s'.heap → Q (.ref I) s') : Q (.ref s.heap.objs.size) { s with heap := s.heap.push o } := by
  refine h _ _ ⟨fun b o e => Heap.get?_push_of_some _ e, rfl, rfl, rfl⟩ size_none ⟨_, _, _, St, 0, hw, st, ?_, fun b hb => .inl (by simpa using hb), hpl, fun j d v hj hv => ?_⟩
  · simp [signs]
  · obtain ⟨c, u, hc, rfl⟩ := hv
    rw [Nat.zero_add] at hc
    simp only [signs, List.getElem?_map, Option.map_eq_some_iff] at hj
    obtain ⟨c', hc', rfl⟩ := hj
    rw [Array.getElem?_toList, hc] at hc'
    cases hc'
    exact .str _ _
theorem iter_str {x : Str} {t : Tok} {Q : Value → Shared → Prop} (h : ∀ I s', Grow s s' → s.heap.get? I = none → IterAt P (fun b => X b ∨ b = I) I (signs x) s'.heap → Q (.ref I) s') : wpAny (model P.prog P.w) A (pyIter (.str x t)) Q E s := by
  cases ha : x.cps.all (· < 128)
  · exact wpAny_pyIter_wide ha (iter_str_aux (fun i h st => let ⟨o, ho, hc, _⟩ := st; ⟨o, _, ho, hc, by decide⟩) (fun A' hA => Walks.strWide hA _ x t) ⟨_, Heap.get?_push_size _ rfl, rfl, rfl⟩ h)
  · exact wpAny_pyIter_ascii ha (iter_str_aux (fun i h st => let ⟨o, ho, hc, _⟩ := st; ⟨o, _, ho, hc, by decide⟩) (fun A' hA => Walks.strAscii hA _ x t) ⟨_, Heap.get?_push_size _ rfl, rfl, rfl⟩ h)
theorem iter_list {v : Value} {ds : List PV} {Q : Value → Shared → Prop} (r : Rep P.C X s.heap v (.list ds)) (h : ∀ I s', Grow s s' → s.heap.get? I = none → IterAt P (fun b => X b ∨ b = I) I ds s'.heap → Q (.ref I) s') :
    wpAny (model P.prog P.w) A (pyIter v) Q E s := by
  cases r with
  | list hna hl hr =>
    rename_i a vs
    replace hl := hl.isList
    have hne : a ≠ s.heap.objs.size := by obtain ⟨o, ho, _⟩ := hl; exact Nat.ne_of_lt (Heap.lt_size ho)
    have hk : ∀ b o, s.heap.get? b = some o → (s.heap.push { cls := .type "list_iterator", data := .fields #[.ref a, .int 0 0] }).get? b = some o := fun b o e => Heap.get?_push_of_some _ e
    refine wpAny_pyIter_list hl (h _ _ ⟨hk, rfl, rfl, rfl⟩ size_none ⟨_, _, _, _, 0, fun A' hA => Walks.list hA _ a hne vs, ⟨⟨_, Heap.get?_push_size _ rfl, rfl, rfl⟩, isList_keep hl fun o e => hk _ o e⟩, ?_, ?_, (fun i h st => let ⟨⟨o, ho, hc, _⟩, _⟩ := st; ⟨o, _, ho, hc, by decide⟩), ?_⟩)
    · rw [← hr.length]; simp
    · intro b hb
      simp only [List.mem_cons, List.not_mem_nil, or_false] at hb
      rcases hb with q | q
      · exact .inl q
      · exact .inr ⟨fun z => z.elim (q ▸ hna) (q ▸ hne), let ⟨o, ho, _⟩ := hl; ⟨o, by rw [q]; exact hk _ _ ho⟩⟩
    · intro j d u hj hu
      rw [Nat.zero_add] at hu
      obtain ⟨y, hy, ry⟩ := hr.get j d hj
      rw [Array.getElem?_toList, hu] at hy
      cases hy
      exact ry.keep (fun b o _ e => hk b o e) fun b o hb e z => z.elim hb fun z => Nat.ne_of_lt (Heap.lt_size e) z

/-- the source of a loop: its items -/
structure Src (P : Par) (k : Nat) (sc : Scope) (n : Nm) (e : Expr) (ds : List PV) : Prop where
  go : ∀ {A : Around} {env : Env} {W X : Addr → Prop} {s : Shared} {E : Value → Shared → Prop} {Q : Value → Shared → Prop}, Room k A → Good P sc n env W X s.heap →
    (∀ I s', Grow s s' → s.heap.get? I = none → IterAt P (fun b => X b ∨ b = I) I ds s'.heap → Q (.ref I) s') → wpAny (model P.prog P.w) A (eval e env) (fun x s₁ => wpAny (model P.prog P.w) A (pyIter x) Q E s₁) E s
theorem none_back {h h' : Heap} {b : Addr} (k : ∀ b o, h.get? b = some o → h'.get? b = some o) (e : h'.get? b = none) : h.get? b = none := by
  cases q : h.get? b with
  | none => rfl
  | some o => rw [k b o q] at e; cases e
theorem Src.str {e : Expr} {x : Str} (h : Ev P k sc n e (.str x)) : Src P k sc n e (signs x) := ⟨fun R G hq => h.go R G fun v s₁ g₁ r₁ => by
  cases r₁
  exact iter_str fun I s₂ g₂ h1 h3 => hq I s₂ (g₁.trans g₂) (none_back g₁.heap h1) h3⟩
theorem Src.list {e : Expr} {ds : List PV} (h : Ev P k sc n e (.list ds)) : Src P k sc n e ds := ⟨fun R G hq => h.go R G fun v s₁ g₁ r₁ =>
  iter_list r₁ fun I s₂ g₂ h1 h3 => hq I s₂ (g₁.trans g₂) (none_back g₁.heap h1) h3⟩

/-- the numbers of a range -/
def numsOf (a b : Int) : List PV := (List.range (b - a).toNat).map fun j => PV.int (a + (j : Nat))
theorem rngSize_one (a b : Int) : Builtin.Range.rangeSize a b 1 = ((b - a).toNat : Int) := by
  unfold Builtin.Range.rangeSize
  rw [if_pos (by decide)]
  split
  · rw [Int.ediv_one]; omega
  · omega
theorem iter_range {r : Addr} {a b : Int} {t u v : Tok} {Q : Value → Shared → Prop} (hr : IsRange s.heap r a b 1 t u v) (ha : a.natAbs ≤ 4294967296) (hb : b.natAbs ≤ 4294967296)
    (h : ∀ I s', Grow s s' → s.heap.get? I = none → IterAt P (fun b => X b ∨ b = I) I (numsOf a b) s'.heap → Q (.ref I) s') : wpAny (model P.prog P.w) A (pyIter (.ref r)) Q E s := by
  have hs : Builtin.Range.small a b 1 = true := by
    unfold Builtin.Range.small Builtin.Range.rangeFitsLong
    rw [rngSize_one, if_pos (by decide)]
    simp only [Bool.and_eq_true, Bool.or_eq_true, decide_eq_true_eq, beq_iff_eq]
    omega
  refine wpAny_pyIter_range hr hs (h _ _ ⟨fun b o e => Heap.get?_push_of_some _ e, rfl, rfl, rfl⟩ size_none ⟨_, _, _, _, 0, fun A' hA => Walks.range hA _ a 1 (b - a).toNat, ?_, ?_, fun b hb => .inl (by simpa using hb), (fun i h st => ⟨_, _, st, rfl, by decide⟩), ?_⟩)
  · rw [rngSize_one]
    show Heap.get? _ _ = some _
    rw [Heap.get?_push_size _ rfl]
    simp
  · simp [numsOf]
  · intro j d v hj hv
    obtain ⟨t', rfl⟩ := hv
    simp only [numsOf, List.getElem?_map, Option.map_eq_some_iff] at hj
    obtain ⟨c, hc, rfl⟩ := hj
    have : c = j := by
      by_cases z : j < (b - a).toNat
      · rw [List.getElem?_range z] at hc; cases hc; rfl
      · rw [List.getElem?_eq_none (by simpa using z)] at hc; cases hc
    subst this
    have e : a + ((0 + c : Nat) : Int) * 1 = a + (c : Nat) := by rw [Nat.zero_add, Int.mul_one]
    rw [e]
    exact .int _ _
theorem Src.range2 {p pos : Pos} {x : Str} {e₁ e₂ : Expr} {a b : Int} (hx : sc.names.lookup x = some .globalImplicit) (hv : Glb P x (.type "range")) (hd : (x == ("__debug__" : Str)) = false)
    (h : Evs P k sc n [e₁, e₂] [.int a, .int b]) (ha : smallI a = true) (hb : smallI b = true) (he : ∀ env, starEach [e₁, e₂] env = (false, eval e₁ env) :: starEach [e₂] env) (hp : ∀ pos env, (backTo pos (starEach [e₂] env)).any (·.1) = false) :
    Src P k sc n (.Call (.Name x p) [e₁, e₂] [] pos) (numsOf a b) := ⟨fun R G hq =>
  Call_Name rfl (glb G hx hv hd (callWith_type1 (h.go R G fun vs s₁ g₁ r₁ => by
    cases r₁ with | cons r₁ r₂ =>
    cases r₁; cases r₂ with | cons r₁ r₂ =>
    cases r₁; cases r₂
    refine call_range_2 ?_
    refine iter_range (IsRange.new ..) (smallI_le ha) (smallI_le hb) fun I s₂ g₂ h1 h2 => hq I s₂ (g₁.trans ⟨fun b o e => g₂.heap b o (Heap.get?_push_of_some _ e), g₂.gens, g₂.drawn, g₂.os⟩) ?_ h2
    exact none_back g₁.heap (none_back (fun b o e => Heap.get?_push_of_some _ e) h1)) (he _) (hp _ _)))⟩
theorem Src.range1 {p pos : Pos} {x : Str} {e₁ : Expr} {b : Int} (hx : sc.names.lookup x = some .globalImplicit) (hv : Glb P x (.type "range")) (hd : (x == ("__debug__" : Str)) = false)
    (h : Evs P k sc n [e₁] [.int b]) (hb : smallI b = true) (he : ∀ env, starEach [e₁] env = (false, eval e₁ env) :: starEach [] env) :
    Src P k sc n (.Call (.Name x p) [e₁] [] pos) (numsOf 0 b) := ⟨fun R G hq =>
  Call_Name rfl (glb G hx hv hd (callWith_type1 (h.go R G fun vs s₁ g₁ r₁ => by
    cases r₁ with | cons r₁ r₂ =>
    cases r₁; cases r₂
    refine call_range_1 ?_
    refine iter_range (IsRange.new ..) (by decide) (smallI_le hb) fun I s₂ g₂ h1 h2 => hq I s₂ (g₁.trans ⟨fun b o e => g₂.heap b o (Heap.get?_push_of_some _ e), g₂.gens, g₂.drawn, g₂.os⟩) ?_ h2
    exact none_back g₁.heap (none_back (fun b o e => Heap.get?_push_of_some _ e) h1)) (he _) rfl))⟩
end
end Mine

end
noncomputable section
open PySem PySem.W PyProof.Rows PySem.Calls
set_option Elab.async false
set_option linter.unusedVariables false
namespace Mine

def Nm.put (n : Nm) (x : Str) (d : PV) : Nm := ⟨Mine.put n.ρ x d, match n.own with | some (y, xs) => if x == y then none else some (y, xs) | none => none, match n.me with | some (y, r) => if x == y then none else some (y, r) | none => none⟩

theorem lookup_put {ρ : Rho} {x y : Str} {d : PV} : (Mine.put ρ x d).lookup y = if y = x then some d else ρ.lookup y := by
  induction ρ with
  | nil =>
    unfold Mine.put
    by_cases q : y = x
    · subst q; simp [List.lookup]
    · simp [List.lookup, q, beq_false_of_ne q]
  | cons p r ih =>
    obtain ⟨z, e⟩ := p
    unfold Mine.put
    by_cases q : x = z
    · subst q
      simp only [beq_self_eq_true, if_true]
      by_cases q : y = x
      · subst q; simp [List.lookup]
      · simp [List.lookup, q, beq_false_of_ne q]
    · simp only [beq_false_of_ne q, Bool.false_eq_true, if_false]
      by_cases q2 : y = z
      · subst q2
        have : ¬ y = x := fun h => q h.symm
        simp [List.lookup, this]
      · simp only [List.lookup, beq_false_of_ne q2]
        exact ih

def storable : Option NameKind → Bool
  | some .local | some .cell => true
  | _ => false

section
variable {P : Par} {k : Nat} {sc : Scope} {n : Nm} {A : Around} {E : Value → Shared → Prop} {s : Shared} {W X : Addr → Prop} {env : Env}

theorem store_ok {x : Str} {v : Value} {d : PV} {Q : Unit → Shared → Prop} (G : Good P sc n env W X s.heap) (hx : storable (sc.names.lookup x) = true) (r : Rep P.C X s.heap v d)
    (h : ∀ h' tk, Good P sc (n.put x d) env W X h' → KeepBut W s.heap h' → Q () { s with heap := h', toks := tk }) : wpAny (model P.prog P.w) A (storeName env x v) Q E s := by
  obtain ⟨m, F, h1, h2, h3⟩ := G.names
  have hk : env.kindOf x = some .local ∨ env.kindOf x = some .cell := by
    rw [Env.kindOf, G.scope]
    cases e : sc.names.lookup x with
    | none => rw [e] at hx; cases hx
    | some q => rw [e] at hx; cases q <;> first | exact .inl rfl | exact .inr rfl | cases hx
  refine name_store F G.apart hk fun h' tk F' kp st => ?_
  have kW : KeepBut W s.heap h' := kp.mono G.priv
  have kX : KeepBut X s.heap h' := kW.mono G.wx
  refine h h' tk ⟨G.scope, G.globals, G.bns, fun b o e => kW b o (fun q => by rw [G.wb b q] at e; cases e) (G.base b o e), fun b hb => ?_, G.wx, G.wb, G.priv, G.apart, _, F', fun y e he => ?_, fun y xs he => ?_, fun y a dx fs he => ?_⟩ kW
  · obtain ⟨o, ho⟩ := G.stand b hb
    exact st b o ho
  · rw [Nm.put, lookup_put] at he
    by_cases q : y = x
    · rw [if_pos q] at he
      cases he
      exact ⟨v, by rw [if_pos q], r.keep kX fun b _ hb _ => hb⟩
    · rw [if_neg q] at he
      obtain ⟨u, hu, ru⟩ := h1 y e he
      exact ⟨u, by rw [if_neg q]; exact hu, ru.keep kX fun b _ hb _ => hb⟩
  · unfold Nm.put at he
    cases ho : n.own with
    | none => simp only [ho] at he; cases he
    | some p =>
      obtain ⟨z, zs⟩ := p
      simp only [ho] at he
      by_cases q : x = z
      · subst q; simp at he
      · simp only [beq_false_of_ne q, Bool.false_eq_true, if_false, Option.some.injEq, Prod.mk.injEq] at he
        obtain ⟨rfl, rfl⟩ := he
        obtain ⟨a, vs, e1, e2, e3, e4, e5⟩ := h2 z zs ho
        exact ⟨a, vs, by rw [if_neg fun w => q w.symm]; exact e1, e2, e3, e4.at fun o e => kp a o e3 e, e5.keep kX fun b _ hb _ => hb⟩
  · unfold Nm.put at he
    cases ho : n.me with
    | none => simp only [ho] at he; cases he
    | some p =>
      obtain ⟨z, zs⟩ := p
      simp only [ho] at he
      by_cases q : x = z
      · subst q; simp at he
      · simp only [beq_false_of_ne q, Bool.false_eq_true, if_false, Option.some.injEq, Prod.mk.injEq] at he
        obtain ⟨rfl, rfl⟩ := he
        have M := h3 _ _ _ _ ho
        exact M.keep (fun e => by rw [if_neg fun w => q w.symm]; exact e) (fun _ q => q) (fun o e => kp _ o M.pa e) (fun o e => kp _ o M.pd e) kX fun b _ hb _ => hb
end
end Mine

end
noncomputable section
open PySem PySem.W PyProof.Rows PySem.Calls
set_option Elab.async false
set_option linter.unusedVariables false
namespace Mine

/-- only places of W were written -/
structure Kept (W : Addr → Prop) (s s' : Shared) : Prop where
  heap : KeepBut W s.heap s'.heap
  gens : s'.gens = s.gens
  drawn : s'.drawn = s.drawn
  os : s'.os = s.os
theorem Kept.refl {W : Addr → Prop} {s : Shared} : Kept W s s := ⟨.refl, rfl, rfl, rfl⟩
theorem Grow.kept {W : Addr → Prop} {s s' : Shared} (g : Grow s s') : Kept W s s' := ⟨fun b o _ e => g.heap b o e, g.gens, g.drawn, g.os⟩
theorem Kept.trans {W : Addr → Prop} {s s' s'' : Shared} (x : Kept W s s') (y : Kept W s' s'') : Kept W s s'' := ⟨x.heap.trans y.heap, y.gens.trans x.gens, y.drawn.trans x.drawn, y.os.trans x.os⟩
theorem Kept.of {W : Addr → Prop} {s : Shared} {h' : Heap} (tk : Nat) (k : KeepBut W s.heap h') : Kept W s { s with heap := h', toks := tk } := ⟨k, rfl, rfl, rfl⟩
/-- a step behind another: what it wrote beyond W was new -/
theorem Kept.then {W W' : Addr → Prop} {s s' s'' : Shared} (x : Kept W s s') (hw : ∀ b, W' b → W b ∨ s.heap.get? b = none) (y : Kept W' s' s'') : Kept W s s'' :=
  ⟨fun b o hb e => y.heap b o (fun q => (hw b q).elim hb fun z => by rw [z] at e; cases e) (x.heap b o hb e), y.gens.trans x.gens, y.drawn.trans x.drawn, y.os.trans x.os⟩

def asgN (sc : Scope) : List Expr → List PV → Nm → Option Nm
  | [], [], n => some n
  | .Name x _ :: es, d :: ds, n => match storable (sc.names.lookup x) with
    | true => asgN sc es ds (n.put x d)
    | false => none
  | _, _, _ => none
def asg (sc : Scope) : Expr → PV → Nm → Option Nm
  | .Name x p, d, n => asgN sc [.Name x p] [d] n
  | .Tuple es _ _, .tup ds, n => asgN sc es ds n
  | _, _, _ => none

section
variable {P : Par} {k : Nat} {sc : Scope} {A : Around} {E : Value → Shared → Prop} {W X : Addr → Prop} {env : Env}

theorem asgN_ok : ∀ {es : List Expr} {vs : List Value} {ds : List PV} {n n' : Nm} {s : Shared} {Q : Unit → Shared → Prop}, Good P sc n env W X s.heap → RepL P.C X s.heap vs ds → asgN sc es ds n = some n' →
    (∀ s', Good P sc n' env W X s'.heap → Kept W s s' → Q () s') → wpAny (model P.prog P.w) A (assignInOrder ((assignEach es env).map (·.2)) vs) Q E s
  | [], vs, ds, n, n', s, Q, G, r, he, h => by
    cases r with
    | nil => simp only [asgN, Option.some.injEq] at he; subst he; exact wpAny_assignInOrder_none (h s G .refl)
    | cons a b => simp [asgN] at he
  | e :: es, vs, ds, n, n', s, Q, G, r, he, h => by
    cases r with
    | nil => cases e <;> simp [asgN] at he
    | cons a b =>
      cases e with
      | Name x p =>
        simp only [asgN] at he
        split at he
        · rename_i hx
          refine wpAny_assignInOrder_more (wpAny_assign_Name (store_ok G hx a fun h' tk G' kp => ?_))
          exact asgN_ok (s := { s with heap := h', toks := tk }) G' (b.keep (kp.mono G.wx) fun b _ hb _ => hb) he fun s' G'' k' => h s' G'' ((Kept.of tk kp).trans k')
        · cases he
      | _ => simp [asgN] at he

theorem asgN_len : ∀ {es : List Expr} {ds : List PV} {n n' : Nm}, asgN sc es ds n = some n' → (assignEach es env).length = ds.length ∧ (assignEach es env).findIdx? (·.1) = none
  | [], ds, n, n', he => by
    cases ds with
    | nil => exact ⟨rfl, rfl⟩
    | cons a b => simp [asgN] at he
  | e :: es, ds, n, n', he => by
    cases ds with
    | nil => cases e <;> simp [asgN] at he
    | cons a b =>
      cases e with
      | Name x p =>
        simp only [asgN] at he
        split at he
        · obtain ⟨h1, h2⟩ := asgN_len he
          refine ⟨by show (assignEach es env).length + 1 = _; rw [h1]; rfl, ?_⟩
          show List.findIdx? (·.1) ((false, _) :: assignEach es env) = none
          rw [List.findIdx?_cons]
          simp [h2]
        · cases he
      | _ => simp [asgN] at he

theorem asg_ok {t : Expr} {v : Value} {d : PV} {n n' : Nm} {s : Shared} {Q : Unit → Shared → Prop} (hA : A.handled = none) (G : Good P sc n env W X s.heap) (r : Rep P.C X s.heap v d) (he : asg sc t d n = some n')
    (h : ∀ s', Good P sc n' env W X s'.heap → Kept W s s' → Q () s') : wpAny (model P.prog P.w) A (assign t env v) Q E s := by
  unfold asg at he
  split at he
  · rename_i x p d n
    simp only [asgN] at he
    split at he
    · rename_i hx
      cases he
      exact wpAny_assign_Name (store_ok G hx r fun h' tk G' kp => h _ G' ⟨kp, rfl, rfl, rfl⟩)
    · cases he
  · rename_i es j p ds n
    cases r with
    | tup hna ht hr =>
      rename_i a vs
      obtain ⟨h1, h2⟩ := asgN_len (env := env) he
      refine wpAny_assign_Tuple hA ht (by rw [h1, ← hr.length]; simp) h2 fun h' hx => ?_
      have hk : ∀ b o, s.heap.get? b = some o → h'.get? b = some o := fun b o e => hx b o (Nat.ne_of_lt (Heap.lt_size e)) e
      refine asgN_ok (s := { s with heap := h' }) (G.grow hk) (hr.grow hk) he fun s' G' k' => h s' G' ((Kept.of s.toks fun b o _ e => hk b o e).trans k')
  · cases he
end
end Mine

end
noncomputable section
open PySem PySem.W PyProof.Rows PySem.Calls
set_option Elab.async false
set_option linter.unusedVariables false
namespace Mine

inductive Out where
  | next (n : Nm)
  | brk (n : Nm)
  | ret (d : PV)
def U (X₀ W : Addr → Prop) (b : Addr) : Prop := X₀ b ∨ W b
structure Then (P : Par) (sc : Scope) (env : Env) (X₀ W : Addr → Prop) (s : Shared) (n : Nm) (W' : Addr → Prop) (s' : Shared) : Prop where
  sub : ∀ b, W b → W' b
  new : ∀ b, W' b → W b ∨ s.heap.get? b = none
  good : Good P sc n env W' (U X₀ W') s'.heap
  off : ∀ b, W' b → ¬ X₀ b
  kept : Kept W s s'
def Got (P : Par) (sc : Scope) (env : Env) (X₀ W : Addr → Prop) (s : Shared) (Q : Flow → Shared → Prop) : Out → Prop
  | .next n => ∀ W' s', Then P sc env X₀ W s n W' s' → Q .next s'
  | .brk n => ∀ W' s', Then P sc env X₀ W s n W' s' → Q .brk s'
  | .ret d => ∀ v s', Kept W s s' → Rep P.C X₀ s'.heap v d → Q (.ret v) s'
structure Ex1 (P : Par) (k : Nat) (sc : Scope) (n : Nm) (st : Stmt) (o : Out) : Prop where
  go : ∀ {A : Around} {env : Env} {W X₀ : Addr → Prop} {s : Shared} {E : Value → Shared → Prop} {Q : Flow → Shared → Prop}, Room k A → Good P sc n env W (U X₀ W) s.heap → (∀ b, W b → ¬ X₀ b) →
    Got P sc env X₀ W s Q o → wpAny (model P.prog P.w) A (exec st env) Q E s
structure Ex (P : Par) (k : Nat) (sc : Scope) (n : Nm) (body : List Stmt) (o : Out) : Prop where
  go : ∀ {A : Around} {env : Env} {W X₀ : Addr → Prop} {s : Shared} {E : Value → Shared → Prop} {Q : Flow → Shared → Prop}, Room k A → Good P sc n env W (U X₀ W) s.heap → (∀ b, W b → ¬ X₀ b) →
    Got P sc env X₀ W s Q o → wpAny (model P.prog P.w) A (execs body env) Q E s

section
variable {P : Par} {k : Nat} {sc : Scope} {n n₁ n₂ : Nm} {env : Env} {W W' X₀ : Addr → Prop} {s s' : Shared}
theorem Then.trans {W'' : Addr → Prop} {s'' : Shared} (x : Then P sc env X₀ W s n₁ W' s') (y : Then P sc env X₀ W' s' n₂ W'' s'') : Then P sc env X₀ W s n₂ W'' s'' := by
  refine ⟨fun b h => y.sub b (x.sub b h), fun b h => ?_, y.good, y.off, x.kept.then x.new y.kept⟩
  rcases y.new b h with q | q
  · exact x.new b q
  · by_cases z : W b
    · exact .inl z
    · refine .inr ?_
      cases e : s.heap.get? b with
      | none => rfl
      | some o => rw [x.kept.heap b o z e] at q; cases q
theorem Got.after {Q : Flow → Shared → Prop} {o : Out} (x : Then P sc env X₀ W s n₁ W' s') (h : Got P sc env X₀ W s Q o) : Got P sc env X₀ W' s' Q o := by
  cases o with
  | next n => exact fun W'' s'' y => h W'' s'' (x.trans y)
  | brk n => exact fun W'' s'' y => h W'' s'' (x.trans y)
  | ret d => exact fun v s'' y r => h v s'' (x.kept.then x.new y) r
theorem Then.refl (G : Good P sc n env W (U X₀ W) s.heap) (hW : ∀ b, W b → ¬ X₀ b) : Then P sc env X₀ W s n W s := ⟨fun _ h => h, fun _ h => .inl h, G, hW, .refl⟩
theorem Then.same (G : Good P sc n env W (U X₀ W) s'.heap) (hW : ∀ b, W b → ¬ X₀ b) (hk : Kept W s s') : Then P sc env X₀ W s n W s' := ⟨fun _ h => h, fun _ h => .inl h, G, hW, hk⟩

theorem Ex.nil : Ex P k sc n [] (.next n) := ⟨fun R G hW h => wpAny_pure (h _ _ (Then.refl G hW))⟩
theorem Ex.cons {st : Stmt} {rest : List Stmt} {o : Out} (h1 : Ex1 P k sc n st (.next n₁)) (h2 : Ex P k sc n₁ rest o) : Ex P k sc n (st :: rest) o := ⟨fun R G hW h =>
  wpAny_execs_cons (h1.go R G hW fun W' s' t => h2.go R t.good t.off (h.after t))⟩
theorem Ex.ret {st : Stmt} {rest : List Stmt} {d : PV} (h1 : Ex1 P k sc n st (.ret d)) : Ex P k sc n (st :: rest) (.ret d) := ⟨fun R G hW h =>
  wpAny_execs_cons (h1.go R G hW fun v s' t r => h v s' t r)⟩
theorem Ex1.assign {x : Str} {p pos : Pos} {e : Expr} {d : PV} (he : Ev P k sc n e d) (hx : storable (sc.names.lookup x) = true) (hs : ∀ env, swapsWith e (some (.Name x p)) pos.line env = pure false) :
    Ex1 P k sc n (.Assign [.Name x p] e pos) (.next (n.put x d)) := ⟨fun R G hW h =>
  wpAny_Assign_Name (he.go R G fun v s₁ g₁ r₁ => store_ok (G.grow g₁.heap) hx r₁ fun h' tk G' kp => h _ _ (Then.same G' hW (g₁.kept.trans (Kept.of tk kp)))) (hs _)⟩
theorem Ex1.ifT {t : Expr} {b c : List Stmt} {pos : Pos} {o : Out} (ht : Tv P k sc n t true) (hb : Ex P k sc n b o) : Ex1 P k sc n (.If t b c pos) o := ⟨fun R G hW h =>
  wpAny_If (ht.go R G fun s₁ g₁ => by rw [if_pos rfl]; exact hb.go R (G.grow g₁.heap) hW (h.after (Then.same (G.grow g₁.heap) hW g₁.kept)))⟩
theorem Ex1.ifF {t : Expr} {b c : List Stmt} {pos : Pos} {o : Out} (ht : Tv P k sc n t false) (hb : Ex P k sc n c o) : Ex1 P k sc n (.If t b c pos) o := ⟨fun R G hW h =>
  wpAny_If (ht.go R G fun s₁ g₁ => by rw [if_neg (by decide)]; exact hb.go R (G.grow g₁.heap) hW (h.after (Then.same (G.grow g₁.heap) hW g₁.kept)))⟩
theorem Ex1.ret {e : Expr} {pos : Pos} {d : PV} (he : Ev P k sc n e d) : Ex1 P k sc n (.Return (some e) pos) (.ret d) := ⟨fun R G hW h =>
  wpAny_Return_some (he.go R G fun v s₁ g₁ r₁ => h v s₁ g₁.kept (r₁.weaken fun b q => .inl q))⟩
/-- the list that the block alone held goes out -/
theorem Ex1.retOwn {x : Str} {p pos : Pos} {xs : List PV} (hk : isVar (sc.names.lookup x) = true) (hd : n.own = some (x, xs)) (h1 : (x == ("__debug__" : Str)) = false) (h2 : (x == ("__classdict__" : Str)) = false) :
    Ex1 P k sc n (.Return (some (.Name x p)) pos) (.ret (.list xs)) := ⟨fun R G hW h => by
  obtain ⟨m, F, _, hr, _⟩ := G.names
  obtain ⟨a, vs, hv, ha, _, hl, r⟩ := hr x xs hd
  exact wpAny_Return_some (name_load F (by rw [Env.kindOf, G.scope]; exact hk) hv h1 h2 (h _ _ .refl (.list (hW a ha) hl (r.weaken fun b q => .inl q))))⟩
end
end Mine

end
noncomputable section
open PySem PySem.W PyProof.Rows PySem.Calls
set_option Elab.async false
set_option linter.unusedVariables false
namespace Mine

/-- the turns of a loop -/
inductive Lp (P : Par) (k : Nat) (sc : Scope) (t : Expr) (body : List Stmt) : Nm → List PV → Out → Prop
  | nil {n} : Lp P k sc t body n [] (.next n)
  | cons {n n₁ n₂ d ds o} : asg sc t d n = some n₁ → Ex P k sc n₁ body (.next n₂) → Lp P k sc t body n₂ ds o → Lp P k sc t body n (d :: ds) o
  | ret {n n₁ d ds r} : asg sc t d n = some n₁ → Ex P k sc n₁ body (.ret r) → Lp P k sc t body n (d :: ds) (.ret r)
  | brk {n n₁ n₂ d ds} : asg sc t d n = some n₁ → Ex P k sc n₁ body (.brk n₂) → Lp P k sc t body n (d :: ds) (.next n₂)

section
variable {P : Par} {k : Nat} {sc : Scope} {n : Nm} {env : Env} {W X Y : Addr → Prop} {h h' : Heap}
/-- a place that no name and no datum has is written -/
theorem Good.shift {I : Addr} (G : Good P sc n env W X h) (hk : KeepBut (· = I) h h') (hXI : X I) (hWI : ¬ W I) (hB : P.hB.get? I = none) (hYX : ∀ b, Y b → X b) (hWY : ∀ b, W b → Y b)
    (hI : Y I → ∃ o, h'.get? I = some o) : Good P sc n env W Y h' := by
  have kX : KeepBut X h h' := hk.mono fun b q => by rw [q]; exact hXI
  have hne : ∀ b, W b → b ≠ I := fun b hb q => hWI (q ▸ hb)
  refine ⟨G.scope, G.globals, G.bns, fun b o e => hk b o (fun q => by rw [q, hB] at e; cases e) (G.base b o e), fun b hb => ?_, hWY, G.wb, G.priv, G.apart, ?_⟩
  · by_cases q : b = I
    · subst q; exact hI hb
    · obtain ⟨o, ho⟩ := G.stand b (hYX b hb)
      exact ⟨o, hk b o q ho⟩
  · obtain ⟨m, F, h1, h2, h3⟩ := G.names
    have hy : ∀ b o, ¬ X b → h.get? b = some o → ¬ Y b := fun b _ hb _ q => hb (hYX b q)
    refine ⟨m, F.keep fun b o hb e => hk b o (hne b (G.priv b hb)) e, fun x d e => ?_, fun x xs e => ?_, fun x a dx fs e => ?_⟩
    · obtain ⟨v, hv, r⟩ := h1 x d e
      exact ⟨v, hv, r.keep kX hy⟩
    · obtain ⟨a, vs, e1, e2, e3, e4, e5⟩ := h2 x xs e
      exact ⟨a, vs, e1, e2, e3, e4.at fun o q => hk a o (hne a e2) q, e5.keep kX hy⟩
    · have M := h3 x a dx fs e
      exact M.keep id (fun _ q => q) (fun o q => hk a o (hne a M.wa) q) (fun o q => hk dx o (hne dx M.wd) q) kX hy
theorem owned_pass {A : Around} {E : Value → Shared → Prop} {s : Shared} {t : Expr} {I : Addr} {v : Value} {Q : Unit → Shared → Prop} (hp : Plain I s.heap) (hq : Q () s) : wpAny (model P.prog P.w) A (letOwnedTupleGo t (.ref I) v) Q E s := by
  obtain ⟨o, T, ho, hc, hT⟩ := hp
  unfold letOwnedTupleGo
  have main : wpAny (model P.prog P.w) A (do
      let (.ref r, .ref a) := ((Value.ref I), v) | return
      let o ← load r
      match o.cls, o.data with
      | .type n, .fields vs =>
        if ["enumerate", "zip", "dict_itemiterator", "dict_reverseitemiterator", "odict_iterator", "itertools.zip_longest", "itertools.pairwise"].contains n && vs[0]? == some (rawInt a) then
          rule "for.unpacks-the-owned-tuple"
          updateField r 0 .none
      | _, _ => pure ()) Q E s := by
    cases v <;> first | exact wpAny_pure hq | skip
    refine wpAny_bind (wpAny_load ho ?_)
    rw [hc]
    cases o.data <;> first | exact wpAny_pure hq | skip
    have : owners.contains T = false := hT
    unfold owners at this
    simp only [this, Bool.false_and, Bool.false_eq_true, if_false]
    exact wpAny_pure hq
  split <;> first | exact main | exact wpAny_pure hq
end
end Mine

end
noncomputable section
open PySem PySem.W PyProof.Rows PySem.Calls
set_option Elab.async false
set_option linter.unusedVariables false
namespace Mine

section
variable {P : Par} {k : Nat} {sc : Scope} {n : Nm} {env : Env} {W X Y : Addr → Prop} {h h' : Heap}
theorem Good.enter {I : Addr} (G : Good P sc n env W X h) (k : ∀ b o, h.get? b = some o → h'.get? b = some o) (hI : h.get? I = none) (hI' : ∃ o, h'.get? I = some o) (hXY : ∀ b, X b → Y b) (hY : ∀ b, Y b → X b ∨ b = I) : Good P sc n env W Y h' := by
  have hy : ∀ b o, ¬ X b → h.get? b = some o → ¬ Y b := fun b o hb e q => (hY b q).elim hb fun z => by rw [z, hI] at e; cases e
  refine ⟨G.scope, G.globals, G.bns, fun b o e => k b o (G.base b o e), fun b hb => ?_, fun b hb => hXY b (G.wx b hb), G.wb, G.priv, G.apart, ?_⟩
  · rcases hY b hb with q | q
    · obtain ⟨o, ho⟩ := G.stand b q
      exact ⟨o, k b o ho⟩
    · rw [q]; exact hI'
  · obtain ⟨m, F, h1, h2, h3⟩ := G.names
    refine ⟨m, F.keep fun b o _ e => k b o e, fun x d e => ?_, fun x xs e => ?_, fun x a dx fs e => (h3 x a dx fs e).keep id (fun _ q => q) (fun o e => k _ o e) (fun o e => k _ o e) (fun b o _ e => k b o e) hy⟩
    · obtain ⟨v, hv, r⟩ := h1 x d e
      exact ⟨v, hv, r.keep (fun b o _ e => k b o e) hy⟩
    · obtain ⟨a, vs, e1, e2, e3, e4, e5⟩ := h2 x xs e
      exact ⟨a, vs, e1, e2, e3, e4.at fun o q => k _ o q, e5.keep (fun b o _ e => k b o e) hy⟩

theorem U_assoc {X₀ W : Addr → Prop} {I b : Addr} : U (fun b => X₀ b ∨ b = I) W b ↔ (U X₀ W b ∨ b = I) := by
  unfold U
  constructor
  · rintro ((q | q) | q)
    · exact .inl (.inl q)
    · exact .inr q
    · exact .inl (.inr q)
  · rintro ((q | q) | q)
    · exact .inl (.inl q)
    · exact .inr q
    · exact .inl (.inr q)

theorem Ex1.for {t iter : Expr} {body : List Stmt} {pos : Pos} {ds : List PV} {o : Out} (hs : Src P k sc n iter ds) (hl : Lp P k sc t body n ds o) (hf : ∀ env x, foldedSetIterable iter env x = pure x) : Ex1 P k sc n (.For t iter body [] pos) o := ⟨by
  intro A env W X₀ s E Q R G hW hgot
  refine wpAny_For (hs.go R G fun I s₁ g₁ hI hit => ?_) (hf env)
  have hIW : ¬ W I := fun q => by obtain ⟨o, ho⟩ := G.stand I (.inr q); rw [hI] at ho; cases ho
  have hIB : P.hB.get? I = none := by
    cases e : P.hB.get? I with
    | none => rfl
    | some o => rw [G.base I o e] at hI; cases hI
  have hI₁ : ∃ o, s₁.heap.get? I = some o := let ⟨o, _, ho, _⟩ := hit.plain; ⟨o, ho⟩
  refine codeAny_forLoop_any (fun j s' => ∃ (n' : Nm) (ds' : List PV) (W' : Addr → Prop), j = ds'.length ∧ Lp P k sc t body n' ds' o ∧ IterAt P (U (fun b => X₀ b ∨ b = I) W') I ds' s'.heap ∧
    Good P sc n' env W' (U (fun b => X₀ b ∨ b = I) W') s'.heap ∧ (∀ b, W b → W' b) ∧ (∀ b, W' b → W b ∨ s.heap.get? b = none) ∧ (∀ b, W' b → ¬ (X₀ b ∨ b = I)) ∧ Kept W s s') ?_ ds.length ?_
  · rintro j s₂ ⟨n', ds', W', rfl, hl', hit', G', hsub, hnew, hoff, hkept⟩
    have hXI : U (fun b => X₀ b ∨ b = I) W' I := .inl (.inr rfl)
    have hWI : ¬ W' I := fun q => hoff I q (.inr rfl)
    cases ds' with
    | nil =>
      cases hl'
      refine IterAt.next_nil R.handled hit' fun h₃ tk kp => wpAny_pure ?_
      have G₃ : Good P sc n' env W' (U X₀ W') h₃ := G'.shift kp hXI hWI hIB (fun b hb => U_assoc.mpr (.inl hb)) (fun b hb => .inr hb) fun q => by
        rcases q with q | q
        · obtain ⟨o, ho⟩ := G.stand I (.inl q); rw [hI] at ho; cases ho
        · exact (hWI q).elim
      refine hgot W' _ ⟨hsub, hnew, G₃, fun b hb q => hoff b hb (.inl q), hkept.then (W' := (· = I)) (fun b q => .inr (by rw [q]; exact hI)) (Kept.of tk kp)⟩
    | cons d ds' =>
      refine IterAt.next_cons R.handled hXI hit' fun v h₃ tk kp rv hit₃ => ?_
      have hI₃ : ∃ o, h₃.get? I = some o := let ⟨o, _, ho, _⟩ := hit₃.plain; ⟨o, ho⟩
      have G₃ : Good P sc n' env W' (U (fun b => X₀ b ∨ b = I) W') h₃ := G'.shift kp hXI hWI hIB (fun b hb => hb) (fun b hb => .inr hb) fun _ => hI₃
      refine owned_pass (s := { s₂ with heap := h₃, toks := tk }) hit₃.plain ?_
      have k₃ : Kept W s { s₂ with heap := h₃, toks := tk } := hkept.then (W' := (· = I)) (fun b q => .inr (by rw [q]; exact hI)) (Kept.of tk kp)
      have body_ok : ∀ {n₁ : Nm} {o' : Out} {Q' : Flow → Shared → Prop} {E' : Value → Shared → Prop}, asg sc t d n' = some n₁ → Ex P k sc n₁ body o' →
          (∀ s₄, Good P sc n₁ env W' (U (fun b => X₀ b ∨ b = I) W') s₄.heap → IterAt P (U (fun b => X₀ b ∨ b = I) W') I ds' s₄.heap → Kept W' { s₂ with heap := h₃, toks := tk } s₄ → Got P sc env (fun b => X₀ b ∨ b = I) W' s₄ Q' o') →
          wpAny (model P.prog P.w) A (PySem.assign t env v) (fun _ s₄ => wpAny (model P.prog P.w) A (execs body env) Q' E' s₄) E' { s₂ with heap := h₃, toks := tk } := fun ha hx hg =>
        asg_ok R.handled (s := { s₂ with heap := h₃, toks := tk }) G₃ rv ha fun s₄ G₄ k₄ => hx.go R G₄ hoff (hg s₄ G₄ (hit₃.keep (k₄.heap.mono fun b q => .inr q) (fun o e => k₄.heap I o hWI e) fun b _ hb _ => hb) k₄)
      cases hl' with
      | cons ha hx hr =>
        refine body_ok ha hx fun s₄ G₄ hit₄ k₄ W'' s₅ T => ?_
        have hIW'' : ¬ W'' I := fun q => T.off I q (.inr rfl)
        refine ⟨_, Nat.lt_succ_self _, _, _, W'', rfl, hr, ?_, T.good, fun b q => T.sub b (hsub b q), fun b q => ?_, T.off, ?_⟩
        · refine hit₄.keep (T.kept.heap.mono fun b q => .inr q) (fun o e => T.kept.heap I o hWI e) fun b o hb e q => ?_
          rcases q with q | q
          · exact hb (.inl q)
          · rcases T.new b q with z | z
            · exact hb (.inr z)
            · rw [z] at e; cases e
        · rcases T.new b q with z | z
          · exact hnew b z
          · by_cases y : W b
            · exact .inl y
            · refine .inr ?_
              cases e : s.heap.get? b with
              | none => rfl
              | some o => rw [(k₃.then hnew k₄).heap b o y e] at z; cases z
        · exact (k₃.then hnew k₄).then hnew T.kept
      | ret ha hx =>
        refine body_ok ha hx fun s₄ G₄ hit₄ k₄ v₅ s₅ kk rr => ?_
        exact hgot v₅ s₅ ((k₃.then hnew k₄).then hnew kk) (rr.weaken fun b q => .inl q)
      | brk ha hx =>
        refine body_ok ha hx fun s₄ G₄ hit₄ k₄ W'' s₅ T => ?_
        refine hgot W'' s₅ ⟨fun b q => T.sub b (hsub b q), fun b q => ?_, ?_, fun b q z => T.off b q (.inl z), (k₃.then hnew k₄).then hnew T.kept⟩
        · rcases T.new b q with z | z
          · exact hnew b z
          · by_cases y : W b
            · exact .inl y
            · refine .inr ?_
              cases e : s.heap.get? b with
              | none => rfl
              | some o => rw [(k₃.then hnew k₄).heap b o y e] at z; cases z
        · exact T.good.shift (I := I) KeepBut.refl (.inl (.inr rfl)) (fun q => T.off I q (.inr rfl)) hIB (fun b hb => U_assoc.mpr (.inl hb)) (fun b hb => .inr hb) fun q => T.good.stand I (.inl (.inr rfl))
  · have e1 : ∀ b, (U X₀ W b ∨ b = I) → U (fun b => X₀ b ∨ b = I) W b := fun b q => U_assoc.mpr q
    have e2 : ∀ b, U (fun b => X₀ b ∨ b = I) W b → (U X₀ W b ∨ b = I) := fun b q => U_assoc.mp q
    refine ⟨n, ds, W, rfl, hl, hit.keep (fun b o _ e => e) (fun o e => e) (fun b o hb e q => hb (e2 b q)), G.enter g₁.heap hI hI₁ (fun b q => e1 b (.inl q)) e2, fun b q => q, fun b q => .inl q, fun b q z => ?_, g₁.kept⟩
    rcases z with z | z
    · exact hW b q z
    · exact hIW (z ▸ q)⟩
end
end Mine

end
noncomputable section
open PySem PySem.W PyProof.Rows PySem.Calls
set_option Elab.async false
set_option linter.unusedVariables false
namespace Mine

def locT (sc : Scope) : Expr → Bool
  | .Name x _ => sc.names.lookup x == some .local
  | .Tuple es _ _ => es.all fun e => match e with | .Name x _ => sc.names.lookup x == some .local | _ => false
  | _ => false

section
variable {prog : Program} {w : World} {A : Around} {E : Value → Shared → Prop} {s : Shared}
theorem name_storeL {env : Env} {m : Str → Option Value} {x : Str} {v : Value} {Q : Unit → Shared → Prop} (F : Frm env s.heap m) (P : Apart env) (hk : env.kindOf x = some .local)
    (h : ∀ h' tk, Frm env h' (fun y => if y = x then some v else m y) → KeepBut (· = env.locals) s.heap h' → (∀ b o, s.heap.get? b = some o → ∃ o', h'.get? b = some o') → Q () { s with heap := h', toks := tk }) : wpAny (model prog w) A (storeName env x v) Q E s := by
  obtain ⟨ml, hn, he⟩ := F.loc
  refine wpAny_storeName_local hk hn (fun h' hn' hs => h h' _ ⟨F.kind, ⟨_, hn', fun y hy => ?_⟩, fun y hy => ?_⟩ (fun b o hb e => ?_) (fun b o e => ?_)) (by rw [F.kind]; rfl)
  · by_cases q : y = x
    · rw [if_pos q, if_pos q]
    · rw [if_neg q, if_neg q]; exact he y hy
  · obtain ⟨c, hc, o, ho, hd⟩ := F.cel y hy
    have hne : c ≠ env.locals := P.off y c hc
    have hyx : y ≠ x := fun q => by subst q; rw [hk] at hy; rcases hy with q | q <;> cases q
    exact ⟨c, hc, o, (hs.2 c hne).trans ho, by rw [if_neg hyx]; exact hd⟩
  · exact (hs.2 b hb).trans e
  · by_cases q : b = env.locals
    · subst q; obtain ⟨o', _, _, ho', _⟩ := hn'; exact ⟨o', ho'⟩
    · exact ⟨o, (hs.2 b q).trans e⟩
end

section
variable {P : Par} {k : Nat} {sc : Scope} {n : Nm} {A : Around} {E : Value → Shared → Prop} {s : Shared} {W X : Addr → Prop} {env : Env}
theorem store_okL {x : Str} {v : Value} {d : PV} {Q : Unit → Shared → Prop} (G : Good P sc n env W X s.heap) (hx : sc.names.lookup x = some .local) (r : Rep P.C X s.heap v d)
    (h : ∀ h' tk, Good P sc (n.put x d) env W X h' → KeepBut (· = env.locals) s.heap h' → Q () { s with heap := h', toks := tk }) : wpAny (model P.prog P.w) A (storeName env x v) Q E s := by
  obtain ⟨m, F, h1, h2, h3⟩ := G.names
  refine name_storeL F G.apart (by rw [Env.kindOf, G.scope]; exact hx) fun h' tk F' kp st => ?_
  have kP : KeepBut (Priv env) s.heap h' := kp.mono fun b q => .inl q
  have kW : KeepBut W s.heap h' := kP.mono G.priv
  have kX : KeepBut X s.heap h' := kW.mono G.wx
  refine h h' tk ⟨G.scope, G.globals, G.bns, fun b o e => kW b o (fun q => by rw [G.wb b q] at e; cases e) (G.base b o e), fun b hb => ?_, G.wx, G.wb, G.priv, G.apart, _, F', fun y e he => ?_, fun y xs he => ?_, fun y a dx fs he => ?_⟩ kp
  · obtain ⟨o, ho⟩ := G.stand b hb
    exact st b o ho
  · rw [Nm.put, lookup_put] at he
    by_cases q : y = x
    · rw [if_pos q] at he
      cases he
      exact ⟨v, by rw [if_pos q], r.keep kX fun b _ hb _ => hb⟩
    · rw [if_neg q] at he
      obtain ⟨u, hu, ru⟩ := h1 y e he
      exact ⟨u, by rw [if_neg q]; exact hu, ru.keep kX fun b _ hb _ => hb⟩
  · unfold Nm.put at he
    cases ho : n.own with
    | none => simp only [ho] at he; cases he
    | some p =>
      obtain ⟨z, zs⟩ := p
      simp only [ho] at he
      by_cases q : x = z
      · subst q; simp at he
      · simp only [beq_false_of_ne q, Bool.false_eq_true, if_false, Option.some.injEq, Prod.mk.injEq] at he
        obtain ⟨rfl, rfl⟩ := he
        obtain ⟨a, vs, e1, e2, e3, e4, e5⟩ := h2 z zs ho
        exact ⟨a, vs, by rw [if_neg fun w => q w.symm]; exact e1, e2, e3, e4.at fun o e => kP a o e3 e, e5.keep kX fun b _ hb _ => hb⟩
  · unfold Nm.put at he
    cases ho : n.me with
    | none => simp only [ho] at he; cases he
    | some p =>
      obtain ⟨z, zs⟩ := p
      simp only [ho] at he
      by_cases q : x = z
      · subst q; simp at he
      · simp only [beq_false_of_ne q, Bool.false_eq_true, if_false, Option.some.injEq, Prod.mk.injEq] at he
        obtain ⟨rfl, rfl⟩ := he
        have M := h3 _ _ _ _ ho
        exact M.keep (fun e => by rw [if_neg fun w => q w.symm]; exact e) (fun _ q => q) (fun o e => kP _ o M.pa e) (fun o e => kP _ o M.pd e) kX fun b _ hb _ => hb

theorem asgN_okL : ∀ {es : List Expr} {vs : List Value} {ds : List PV} {n n' : Nm} {s : Shared} {Q : Unit → Shared → Prop}, Good P sc n env W X s.heap → RepL P.C X s.heap vs ds → asgN sc es ds n = some n' →
    (es.all fun e => match e with | .Name x _ => sc.names.lookup x == some .local | _ => false) = true →
    (∀ s', Good P sc n' env W X s'.heap → Kept (· = env.locals) s s' → Q () s') → wpAny (model P.prog P.w) A (assignInOrder ((assignEach es env).map (·.2)) vs) Q E s
  | [], vs, ds, n, n', s, Q, G, r, he, hl, h => by
    cases r with
    | nil => simp only [asgN, Option.some.injEq] at he; subst he; exact wpAny_assignInOrder_none (h s G .refl)
    | cons a b => simp [asgN] at he
  | e :: es, vs, ds, n, n', s, Q, G, r, he, hl, h => by
    cases r with
    | nil => cases e <;> simp [asgN] at he
    | cons a b =>
      rw [List.all_cons, Bool.and_eq_true] at hl
      cases e with
      | Name x p =>
        have hx : sc.names.lookup x = some .local := by simpa using hl.1
        simp only [asgN] at he
        split at he
        · refine wpAny_assignInOrder_more (wpAny_assign_Name (store_okL G hx a fun h' tk G' kp => ?_))
          have kX : KeepBut X s.heap h' := kp.mono fun b q => G.wx b (G.priv b (.inl q))
          exact asgN_okL (s := { s with heap := h', toks := tk }) G' (b.keep kX fun b _ hb _ => hb) he hl.2 fun s' G'' k' => h s' G'' ((Kept.of tk kp).trans k')
        · cases he
      | _ => simp [asgN] at he

theorem asg_okL {t : Expr} {v : Value} {d : PV} {n n' : Nm} {s : Shared} {Q : Unit → Shared → Prop} (hA : A.handled = none) (G : Good P sc n env W X s.heap) (r : Rep P.C X s.heap v d) (he : asg sc t d n = some n') (hl : locT sc t = true)
    (h : ∀ s', Good P sc n' env W X s'.heap → Kept (· = env.locals) s s' → Q () s') : wpAny (model P.prog P.w) A (assign t env v) Q E s := by
  unfold asg at he
  split at he
  · rename_i x p d n
    simp only [asgN] at he
    split at he
    · cases he
      exact wpAny_assign_Name (store_okL G (by simpa [locT] using hl) r fun h' tk G' kp => h _ G' ⟨kp, rfl, rfl, rfl⟩)
    · cases he
  · rename_i es j p ds n
    cases r with
    | tup hna ht hr =>
      rename_i a vs
      obtain ⟨h1, h2⟩ := asgN_len (env := env) he
      refine wpAny_assign_Tuple hA ht (by rw [h1, ← hr.length]; simp) h2 fun h' hx => ?_
      have hk : ∀ b o, s.heap.get? b = some o → h'.get? b = some o := fun b o e => hx b o (Nat.ne_of_lt (Heap.lt_size e)) e
      refine asgN_okL (s := { s with heap := h' }) (G.grow hk) (hr.grow hk) he hl fun s' G' k' => h s' G' ((Kept.of s.toks fun b o _ e => hk b o e).trans k')
  · cases he
end

/-- the cells that a comprehension takes along -/
def clOf (env : Env) : List (Str × NameKind) → List (Str × Addr) → List (Str × Addr)
  | [], acc => acc
  | (x, k) :: r, acc => clOf env r (match k == .free, env.cells.lookup x with | true, some c => (x, c) :: acc | _, _ => acc)
theorem closure_go {env : Env} : ∀ (names : List (Str × NameKind)) (acc : List (Str × Addr)), (∀ p ∈ names, p.2 = .free → ∃ c, env.cells.lookup p.1 = some c) →
    (forIn names acc fun (p : Str × NameKind) (cs : List (Str × Addr)) => (if p.2 == .free then do let c ← cellOf env p.1; pure (ForInStep.yield ((p.1, c) :: cs)) else pure (ForInStep.yield cs) : Sem _)) = pure (clOf env names acc)
  | [], acc, h => rfl
  | (x, k) :: r, acc, h => by
    rw [List.forIn_cons]
    cases hk : k == .free with
    | false =>
      simp only [hk, Bool.false_eq_true, if_false]
      have := closure_go r acc fun p hp => h p (.tail _ hp)
      unfold clOf
      rw [hk]
      simpa using this
    | true =>
      obtain ⟨c, hc⟩ := h (x, k) (.head _) (by simpa using hk)
      have := closure_go r ((x, c) :: acc) fun p hp => h p (.tail _ hp)
      simp only [hk, if_true]
      unfold clOf
      rw [hk, hc]
      have e1 : cellOf env x = pure c := by unfold cellOf; rw [hc]
      rw [e1]
      simpa using this
theorem closure_eq {scope : Scope} {env : Env} (h : ∀ p ∈ scope.names, p.2 = .free → ∃ c, env.cells.lookup p.1 = some c) : closureFor scope env = pure (clOf env scope.names []) := by
  have e := closure_go scope.names [] h
  unfold closureFor
  rw [← e]
  simp
theorem clOf_sub {env : Env} : ∀ (names : List (Str × NameKind)) (acc : List (Str × Addr)) (x : Str) (c : Addr), (∀ x c, acc.lookup x = some c → env.cells.lookup x = some c) → (clOf env names acc).lookup x = some c → env.cells.lookup x = some c
  | [], acc, x, c, h, e => h x c e
  | (y, k) :: r, acc, x, c, h, e => by
    unfold clOf at e
    refine clOf_sub r _ x c ?_ e
    split
    · rename_i c' _ hc'
      intro z d hz
      rw [List.lookup_cons] at hz
      split at hz
      · rename_i q; rw [beq_iff_eq] at q; subst q; cases hz; exact hc'
      · exact h z d hz
    · exact h
theorem clOf_acc {env : Env} : ∀ (names : List (Str × NameKind)) (acc : List (Str × Addr)) (x : Str) (c : Addr), (∀ x c, acc.lookup x = some c → env.cells.lookup x = some c) → acc.lookup x = some c → (clOf env names acc).lookup x = some c
  | [], acc, x, c, h, e => e
  | (y, k) :: r, acc, x, c, h, e => by
    unfold clOf
    split
    · rename_i c' _ hc'
      refine clOf_acc r _ x c (fun z d hz => ?_) ?_
      · rw [List.lookup_cons] at hz
        split at hz
        · rename_i q; rw [beq_iff_eq] at q; subst q; cases hz; exact hc'
        · exact h z d hz
      · rw [List.lookup_cons]
        split
        · rename_i q; rw [beq_iff_eq] at q; subst q
          have := h x c e
          rw [hc'] at this; exact this
        · exact e
    · exact clOf_acc r _ x c h e
theorem clOf_has {env : Env} : ∀ (names : List (Str × NameKind)) (acc : List (Str × Addr)) (x : Str) (c : Addr), (∀ x c, acc.lookup x = some c → env.cells.lookup x = some c) → (x, NameKind.free) ∈ names → env.cells.lookup x = some c → (clOf env names acc).lookup x = some c
  | [], acc, x, c, h, hm, e => nomatch hm
  | (y, k) :: r, acc, x, c, h, hm, e => by
    unfold clOf
    rcases List.mem_cons.mp hm with q | q
    · cases q
      rw [e]
      refine clOf_acc r ((y, c) :: acc) y c (fun z d hz => ?_) (by simp)
      rw [List.lookup_cons] at hz
      split at hz
      · rename_i q; rw [beq_iff_eq] at q; subst q; cases hz; exact e
      · exact h z d hz
    · refine clOf_has r _ x c (fun z d hz => ?_) q e
      split at hz
      · rename_i c' _ hc'
        rw [List.lookup_cons] at hz
        split at hz
        · rename_i q; rw [beq_iff_eq] at q; subst q; cases hz; exact hc'
        · exact h z d hz
      · exact h z d hz
end Mine

end
noncomputable section
open PySem PySem.W PyProof.Rows PySem.Calls
set_option Elab.async false
set_option linter.unusedVariables false
namespace Mine

/-- the tests of a clause -/
structure Tvs (P : Par) (k : Nat) (sc : Scope) (n : Nm) (ifs : List Expr) (b : Bool) : Prop where
  go : ∀ {A : Around} {env : Env} {W X : Addr → Prop} {s : Shared} {E : Value → Shared → Prop} {Q : Bool → Shared → Prop}, Room k A → Good P sc n env W X s.heap →
    (∀ s', Grow s s' → Q b s') → wpAny (model P.prog P.w) A (forIn ifs true fun c r => if r = true then do let ok ← isTrue c env (eval c env); pure (ForInStep.yield ok) else pure (ForInStep.yield r)) Q E s
section
variable {P : Par} {k : Nat} {sc : Scope} {n : Nm}
theorem Tvs.nil : Tvs P k sc n [] true := ⟨fun R G h => wpAny_tests_nil (h _ (Grow.refl _))⟩
theorem Tvs.one {c : Expr} {b : Bool} (hc : Tv P k sc n c b) : Tvs P k sc n [c] b := ⟨fun R G h => wpAny_tests_one (hc.go R G h)⟩
end

/-- the turns of a clause: names, items, what they give -/
inductive Cp (P : Par) (k : Nat) (sc : Scope) (t : Expr) (ifs : List Expr) (B : Nm → List PV → Nm → Prop) : Nm → List PV → List PV → Nm → Prop
  | nil {n} : Cp P k sc t ifs B n [] [] n
  | skip {n n₁ n' d ds ys} : asg sc t d n = some n₁ → Tvs P k sc n₁ ifs false → Cp P k sc t ifs B n₁ ds ys n' → Cp P k sc t ifs B n (d :: ds) ys n'
  | take {n n₁ n₂ n' d ds zs ys} : asg sc t d n = some n₁ → Tvs P k sc n₁ ifs true → B n₁ zs n₂ → Cp P k sc t ifs B n₂ ds ys n' → Cp P k sc t ifs B n (d :: ds) (zs ++ ys) n'
/-- the last clause gives one -/
def One (P : Par) (k : Nat) (sc : Scope) (elt : Expr) (n : Nm) (zs : List PV) (n' : Nm) : Prop := ∃ d, zs = [d] ∧ n' = n ∧ Ev P k sc n elt d
abbrev Cp1 (P : Par) (k : Nat) (sc : Scope) (elt t : Expr) (ifs : List Expr) := Cp P k sc t ifs (One P k sc elt)
def Two (P : Par) (k : Nat) (sc : Scope) (elt t iter : Expr) (ifs : List Expr) (n : Nm) (zs : List PV) (n' : Nm) : Prop := ∃ es, Src P k sc n iter es ∧ Cp1 P k sc elt t ifs n es zs n'
abbrev Cp2 (P : Par) (k : Nat) (sc : Scope) (elt t₀ : Expr) (ifs₀ : List Expr) (t iter : Expr) (ifs : List Expr) := Cp P k sc t₀ ifs₀ (Two P k sc elt t iter ifs)

/-- inside a comprehension: its names, what it has gathered -/
structure CSt (P : Par) (sc : Scope) (n : Nm) (env : Env) (W Y : Addr → Prop) (D : Addr) (zs : List PV) (h : Heap) : Prop where
  good : Good P sc n env W Y h
  acc : ∃ vs, h.PlainList D vs ∧ RepL P.C Y h vs.toList zs
  yd : Y D
  wd : ¬ W D
  bd : P.hB.get? D = none
structure Bdy (P : Par) (k : Nat) (sc : Scope) (env : Env) (D : Addr) (bound : Nat) (b : Sem Unit) (n : Nm) (zs : List PV) (n' : Nm) : Prop where
  go : ∀ {A : Around} {W Y : Addr → Prop} {s : Shared} {E : Value → Shared → Prop} {Q : Unit → Shared → Prop} {xs : List PV}, Room k A → xs.length + zs.length ≤ bound → CSt P sc n env W Y D xs s.heap →
    (∀ s', CSt P sc n' env W Y D (xs ++ zs) s'.heap → Kept (fun b => b = env.locals ∨ b = D) s s' → Q () s') → wpAny (model P.prog P.w) A b Q E s

section
variable {P : Par} {k : Nat} {sc : Scope} {n n' : Nm} {env : Env} {W Y : Addr → Prop} {D : Addr} {zs : List PV} {h h' : Heap}
theorem CSt.grow (x : CSt P sc n env W Y D zs h) (k : ∀ b o, h.get? b = some o → h'.get? b = some o) : CSt P sc n env W Y D zs h' :=
  ⟨x.good.grow k, let ⟨vs, h1, h2⟩ := x.acc; ⟨vs, h1.at fun o e => k _ o e, h2.grow k⟩, x.yd, x.wd, x.bd⟩
/-- one is gathered -/
theorem Bdy.one {elt : Expr} {bound : Nat} (hb : bound ≤ 4096) (h : One P k sc elt n zs n') : Bdy P k sc env D bound (do let _ ← call (.builtin "list.append") [.ref D, ← eval elt env]) n zs n' := ⟨by
  intro A W Y s E Q xs R hlen x hq
  obtain ⟨d, rfl, rfl, he⟩ := h
  refine wpAny_bind (he.go R x.good fun v s₁ g₁ r₁ => wpAny_bind ?_)
  have x₁ := x.grow g₁.heap
  obtain ⟨vs, hl, hr⟩ := x₁.acc
  have hsz : vs.size ≤ sizeLine := by
    have := hr.length
    rw [Array.length_toList] at this
    rw [this, sizeLine_eq]
    omega
  refine wpAny_list_append_plain hl (fun h₂ hl₂ hs₂ => wpAny_pure ?_) hsz
  have hk : KeepBut (· = D) s₁.heap h₂ := fun b o hb e => (hs₂.2 b hb).trans e
  have hkY : KeepBut Y s₁.heap h₂ := hk.mono fun b q => by rw [q]; exact x.yd
  refine hq { s₁ with heap := h₂ } ⟨?_, ⟨_, hl₂, ?_⟩, x.yd, x.wd, x.bd⟩ (g₁.kept.trans ⟨hk.mono fun b q => .inr q, rfl, rfl, rfl⟩)
  · exact x₁.good.shift hk x.yd x.wd x.bd (fun b hb => hb) (fun b hb => x₁.good.wx b hb) fun _ => let ⟨_, ho⟩ := hl₂; ⟨_, ho⟩
  · rw [Array.toList_push]
    exact (hr.keep hkY fun b _ hb _ => hb).append (.cons (r₁.keep hkY fun b _ hb _ => hb) .nil)⟩
end

theorem turn_eq1 (elt t iter : Expr) (ifs : List Expr) (scope : Scope) (pos : Pos) (it acc : Value) (env : Env) : compTurn (.ListComp elt [⟨t, iter, ifs, 0⟩] scope pos) 0 it acc env = (do
      standAt iter.pos
      match ← pyNext it with
      | none => pure (.done .next)
      | some v =>
        letOwnedTupleGo t it v
        assign t env v
        let mut ok := true
        for c in ifs do
          if ok then ok ← isTrue c env (eval c env)
        if ok then
          (do let _ ← call (.builtin "list.append") [acc, ← eval elt env])
        again (.compLoop (.ListComp elt [⟨t, iter, ifs, 0⟩] scope pos) 0 it acc env)) := by rfl
theorem turn_eq2 (elt t₀ iter₀ t iter : Expr) (ifs₀ ifs : List Expr) (scope : Scope) (pos : Pos) (it acc : Value) (env : Env) : compTurn (.ListComp elt [⟨t₀, iter₀, ifs₀, 0⟩, ⟨t, iter, ifs, 0⟩] scope pos) 1 it acc env = (do
      standAt iter.pos
      match ← pyNext it with
      | none => pure (.done .next)
      | some v =>
        letOwnedTupleGo t it v
        assign t env v
        let mut ok := true
        for c in ifs do
          if ok then ok ← isTrue c env (eval c env)
        if ok then
          (do let _ ← call (.builtin "list.append") [acc, ← eval elt env])
        again (.compLoop (.ListComp elt [⟨t₀, iter₀, ifs₀, 0⟩, ⟨t, iter, ifs, 0⟩] scope pos) 1 it acc env)) := by rfl
def innerOf (elt t₀ iter₀ t iter : Expr) (ifs₀ ifs : List Expr) (scope : Scope) (pos : Pos) (acc : Value) (env : Env) : Sem Unit := do
  let x ← eval iter env
  standAt iter.pos
  let x ← foldedSetIterable iter env x
  let _ ← runOwn (.compStart (.ListComp elt [⟨t₀, iter₀, ifs₀, 0⟩, ⟨t, iter, ifs, 0⟩] scope pos) 1 (← holding [x] (pyIter x)) acc env) env
theorem turn_eq0 (elt t₀ iter₀ t iter : Expr) (ifs₀ ifs : List Expr) (scope : Scope) (pos : Pos) (it acc : Value) (env : Env) : compTurn (.ListComp elt [⟨t₀, iter₀, ifs₀, 0⟩, ⟨t, iter, ifs, 0⟩] scope pos) 0 it acc env = (do
      standAt iter₀.pos
      match ← pyNext it with
      | none => pure (.done .next)
      | some v =>
        letOwnedTupleGo t₀ it v
        assign t₀ env v
        let mut ok := true
        for c in ifs₀ do
          if ok then ok ← isTrue c env (eval c env)
        if ok then
          innerOf elt t₀ iter₀ t iter ifs₀ ifs scope pos acc env
        again (.compLoop (.ListComp elt [⟨t₀, iter₀, ifs₀, 0⟩, ⟨t, iter, ifs, 0⟩] scope pos) 0 it acc env)) := by unfold innerOf; simp only [bind_assoc]; rfl

section
variable {P : Par} {k : Nat} {sc : Scope} {env : Env} {W Y : Addr → Prop} {D I : Addr} {A : Around} {R : Result → Shared → Prop}
/-- the loop of a clause -/
theorem clause_loop {elt : Expr} {gens : List Comprehension} {scope : Scope} {pos p : Pos} {dep bound : Nat} {t : Expr} {ifs : List Expr} {b : Sem Unit} {B : Nm → List PV → Nm → Prop} {n n' : Nm} {ds ys zs : List PV} {s : Shared}
    (heq : compTurn (.ListComp elt gens scope pos) dep (.ref I) (.ref D) env = (do
      standAt p
      match ← pyNext (.ref I) with
      | none => pure (.done .next)
      | some v =>
        letOwnedTupleGo t (.ref I) v
        assign t env v
        let mut ok := true
        for c in ifs do
          if ok then ok ← isTrue c env (eval c env)
        if ok then b
        again (.compLoop (.ListComp elt gens scope pos) dep (.ref I) (.ref D) env)))
    (hb : ∀ n zs n', B n zs n' → Bdy P k sc env D bound b n zs n') (hl : locT sc t = true) (RA : Room k A) (hc : Cp P k sc t ifs B n ds ys n') (hlen : zs.length + ys.length ≤ bound)
    (x : CSt P sc n env W Y D zs s.heap) (hit : IterAt P Y I ds s.heap) (hY : Y I) (hWI : ¬ W I) (hIB : P.hB.get? I = none) (hID : I ≠ D) {Y₀ : Addr → Prop} (hsub : ∀ b, Y₀ b → Y b) (hYI : ¬ Y₀ I) (hY₀ : ∀ b, Y b → Y₀ b ∨ b = I)
    (hR : ∀ s', CSt P sc n' env W Y₀ D (zs ++ ys) s'.heap → Kept (fun b => b = env.locals ∨ b = D ∨ b = I) s s' → R (.ok .next) s') :
    codeAny (model P.prog P.w) A (.compLoop (.ListComp elt gens scope pos) dep (.ref I) (.ref D) env) R s := by
  have hIL : I ≠ env.locals := fun q => hWI (q ▸ x.good.priv _ (.inl rfl))
  refine codeAny_loop rfl (fun j s' => ∃ (m : Nm) (es us xs : List PV), j = es.length ∧ Cp P k sc t ifs B m es us n' ∧ xs ++ us = zs ++ ys ∧ CSt P sc m env W Y D xs s'.heap ∧ IterAt P Y I es s'.heap ∧ Kept (fun b => b = env.locals ∨ b = D ∨ b = I) s s') (fun j s₁ hI => ?_) ds.length
    ⟨n, ds, ys, zs, rfl, hc, rfl, x, hit, .refl⟩
  show wpAny _ A ((compTurn (.ListComp elt gens scope pos) dep (.ref I) (.ref D) env).onRaise (fun x => do noteFrame x env; theTreesLotGoes x)) _ _ s₁
  refine wpAny_noted ?_
  rw [heq]
  refine wpAny_bind (wpAny_standAt (wpAny_bind ?_))
  obtain ⟨m, es, us, xs, rfl, hc, hsum, x, hit, hkept⟩ := hI
  cases es with
  | nil =>
    cases hc
    refine IterAt.next_nil RA.handled hit fun h₂ tk kp => wpAny_pure ?_
    rw [List.append_nil] at hsum
    have hkY : KeepBut Y s₁.heap h₂ := kp.mono fun b q => by rw [q]; exact hY
    refine hR _ ?_ (hkept.trans ⟨kp.mono fun b q => .inr (.inr q), rfl, rfl, rfl⟩)
    obtain ⟨vs, h1, h2⟩ := x.acc
    have hw : ∀ b, W b → Y₀ b := fun b hb => (hY₀ b (x.good.wx b hb)).elim id fun z => (hWI (z ▸ hb)).elim
    exact ⟨x.good.shift kp hY hWI hIB hsub hw fun z => (hYI z).elim, ⟨vs, h1.at fun o e => kp _ o hID.symm e, hsum ▸ h2.keep hkY fun b _ hb _ z => hb (hsub b z)⟩, (hY₀ D x.yd).elim id fun z => (hID z.symm).elim, x.wd, x.bd⟩
  | cons d es =>
    refine IterAt.next_cons RA.handled hY hit fun v h₂ tk kp rv hit₂ => ?_
    have hkY : KeepBut Y s₁.heap h₂ := kp.mono fun b q => by rw [q]; exact hY
    refine wpAny_bind (owned_pass (s := { s₁ with heap := h₂, toks := tk }) hit₂.plain ?_)
    have hIo : ∃ o, h₂.get? I = some o := let ⟨o, _, ho, _⟩ := hit₂.plain; ⟨o, ho⟩
    have G₂ : Good P sc m env W Y h₂ := x.good.shift kp hY hWI hIB (fun b hb => hb) (fun b hb => x.good.wx b hb) fun _ => hIo
    have k₂ : Kept (fun b => b = env.locals ∨ b = D ∨ b = I) s { s₁ with heap := h₂, toks := tk } := hkept.trans ⟨kp.mono fun b q => .inr (.inr q), rfl, rfl, rfl⟩
    have head : ∀ {n₁ : Nm} {b : Bool} {Q' : Fin → Shared → Prop} {E' : Value → Shared → Prop} {rest : Bool → Sem Fin}, asg sc t d m = some n₁ → Tvs P k sc n₁ ifs b →
        (∀ s₃, CSt P sc n₁ env W Y D xs s₃.heap → IterAt P Y I es s₃.heap → Kept (fun b => b = env.locals ∨ b = D ∨ b = I) s s₃ → wpAny (model P.prog P.w) A (rest b) Q' E' s₃) →
        wpAny (model P.prog P.w) A (do
          assign t env v
          let ok ← forIn ifs true fun c r => if r = true then do let ok ← isTrue c env (eval c env); pure (ForInStep.yield ok) else pure (ForInStep.yield r)
          rest ok) Q' E' { s₁ with heap := h₂, toks := tk } := fun ha ht hq => by
      refine wpAny_bind (asg_okL RA.handled (s := { s₁ with heap := h₂, toks := tk }) G₂ rv ha hl fun s₃ G₃ k₃ => wpAny_bind (ht.go RA G₃ fun s₄ g₄ => ?_))
      have hL : Y env.locals := x.good.wx _ (x.good.priv _ (.inl rfl))
      have k₃Y : KeepBut Y h₂ s₃.heap := k₃.heap.mono fun b q => by rw [q]; exact hL
      have hDL : D ≠ env.locals := fun q => x.wd (q ▸ x.good.priv _ (.inl rfl))
      obtain ⟨vs, h1, h2⟩ := x.acc
      refine hq s₄ ⟨G₃.grow g₄.heap, ⟨vs, h1.at fun o e => g₄.heap _ o (k₃.heap _ o hDL (kp _ o hID.symm e)), ((h2.keep hkY fun b _ hb _ => hb).keep k₃Y fun b _ hb _ => hb).grow g₄.heap⟩, x.yd, x.wd, x.bd⟩ ?_ ?_
      · exact hit₂.keep (fun b o hb e => g₄.heap b o (k₃Y b o hb e)) (fun o e => g₄.heap _ o (k₃.heap _ o hIL e)) fun b _ hb _ => hb
      · exact (k₂.trans ⟨k₃.heap.mono fun b q => .inl q, k₃.gens, k₃.drawn, k₃.os⟩).trans g₄.kept
    cases hc with
    | skip ha ht hr =>
      refine head (rest := fun ok => if ok = true then b >>= fun _ => again (.compLoop (.ListComp elt gens scope pos) dep (.ref I) (.ref D) env) else again (.compLoop (.ListComp elt gens scope pos) dep (.ref I) (.ref D) env)) ha ht fun s₃ x₃ hit₃ k₃ => ?_
      exact wpAny_pure ⟨rfl, _, Nat.lt_succ_self _, _, es, us, xs, rfl, hr, hsum, x₃, hit₃, k₃⟩
    | take ha ht hbB hr =>
      rename_i zs' ys'
      refine head (rest := fun ok => if ok = true then b >>= fun _ => again (.compLoop (.ListComp elt gens scope pos) dep (.ref I) (.ref D) env) else again (.compLoop (.ListComp elt gens scope pos) dep (.ref I) (.ref D) env)) ha ht fun s₃ x₃ hit₃ k₃ => ?_
      have hle : xs.length + zs'.length ≤ bound := by
        have := congrArg List.length hsum
        simp only [List.length_append] at this
        omega
      refine wpAny_bind ((hb _ _ _ hbB).go RA hle x₃ fun s₄ x₄ k₄ => wpAny_pure ⟨rfl, _, Nat.lt_succ_self _, _, es, ys', xs ++ zs', rfl, hr, by rw [List.append_assoc]; exact hsum, x₄, ?_, ?_⟩)
      · have hL : Y env.locals := x.good.wx _ (x.good.priv _ (.inl rfl))
        refine hit₃.keep (k₄.heap.mono fun b q => ?_) (fun o e => k₄.heap _ o (fun q => q.elim hIL hID) e) fun b _ hb _ => hb
        rcases q with q | q <;> rw [q]
        · exact hL
        · exact x.yd
      · exact k₃.trans ⟨k₄.heap.mono fun b q => q.elim .inl fun z => .inr (.inl z), k₄.gens, k₄.drawn, k₄.os⟩
end
end Mine

end
noncomputable section
open PySem PySem.W PyProof.Rows PySem.Calls
set_option Elab.async false
set_option linter.unusedVariables false
namespace Mine

section
variable {P : Par} {k : Nat} {sc : Scope} {n n' : Nm} {env : Env} {W Y : Addr → Prop} {D I : Addr} {zs : List PV} {h h' : Heap} {s : Shared} {A : Around} {R : Result → Shared → Prop}
theorem CSt.enter (x : CSt P sc n env W Y D zs h) (k : ∀ b o, h.get? b = some o → h'.get? b = some o) (hI : h.get? I = none) (hI' : ∃ o, h'.get? I = some o) : CSt P sc n env W (fun b => Y b ∨ b = I) D zs h' := by
  refine ⟨x.good.enter k hI hI' (fun b q => .inl q) fun b q => q, ?_, .inl x.yd, x.wd, x.bd⟩
  obtain ⟨vs, h1, h2⟩ := x.acc
  exact ⟨vs, h1.at fun o e => k _ o e, h2.keep (fun b o _ e => k b o e) fun b o hb e q => q.elim hb fun z => by rw [z, hI] at e; cases e⟩

theorem start1 {elt t₀ iter₀ t iter : Expr} {ifs₀ ifs : List Expr} {scope : Scope} {pos : Pos} {it acc : Value}
    (h0 : codeAny (model P.prog P.w) A (.compLoop (.ListComp elt [⟨t₀, iter₀, ifs₀, 0⟩, ⟨t, iter, ifs, 0⟩] scope pos) 1 it acc env) R s)
    (h : wpAny (model P.prog P.w) A (pyIter it) (fun it' s' => codeAny (model P.prog P.w) A (.compLoop (.ListComp elt [⟨t₀, iter₀, ifs₀, 0⟩, ⟨t, iter, ifs, 0⟩] scope pos) 1 it' acc env) R s')
      (notedBy (model P.prog P.w) A env fun x s' => R (.error x) s') s) :
    codeAny (model P.prog P.w) A (.compStart (.ListComp elt [⟨t₀, iter₀, ifs₀, 0⟩, ⟨t, iter, ifs, 0⟩] scope pos) 1 it acc env) R s := by
  refine codeAny_of_tree ?_
  show wpAny _ _ ((compStart (.ListComp elt [⟨t₀, iter₀, ifs₀, 0⟩, ⟨t, iter, ifs, 0⟩] scope pos) 1 it acc env).onRaise (fun x => do noteFrame x env; standAt theWindowsPlace)) _ _ s
  refine wpAny_notedAt ?_
  unfold compStart
  show wpAny _ _ (ask >>= _) _ _ s
  refine wpAny_bind (wpAny_askSetting (wpAny_ite ?_))
  split
  · first
      | exact wpAny_bind (wpAny_pure (wpAny_pure (And.intro rfl h0)))
      | exact wpAny_pure (And.intro rfl h0)
  · first
      | exact wpAny_bind (wpAny_rule (wpAny_bind (wpAny_standAt (wpAny_bind (wpAny_mono h (fun it' s' h' => wpAny_pure (And.intro rfl h')) fun _ _ x => x)))))
      | (refine wpAny_bind (wpAny_rule ?_); show wpAny _ _ (standAt iter.pos >>= _) _ _ s; exact wpAny_bind (wpAny_standAt (wpAny_bind (wpAny_mono h (fun it' s' h' => wpAny_pure (And.intro rfl h')) fun _ _ x => x))))

/-- an inner clause -/
theorem Bdy.two {elt t₀ iter₀ t iter : Expr} {ifs₀ ifs : List Expr} {scope : Scope} {pos : Pos} {bound : Nat} (hb : bound ≤ 4096) (hl : locT sc t = true) (hf : ∀ env x, foldedSetIterable iter env x = pure x) (h : Two P k sc elt t iter ifs n zs n') :
    Bdy P k sc env D bound (innerOf elt t₀ iter₀ t iter ifs₀ ifs scope pos (.ref D) env) n zs n' := ⟨by
  intro A W Y s E Q xs RA hlen x hq
  obtain ⟨es, hs, hc⟩ := h
  unfold innerOf
  refine wpAny_bind (wpAny_mono (hs.go (E := E) (Q := fun it s₂ => wpAny (model P.prog P.w) A (do let _ ← runOwn (.compStart (.ListComp elt [⟨t₀, iter₀, ifs₀, 0⟩, ⟨t, iter, ifs, 0⟩] scope pos) 1 it (.ref D) env) env) Q E s₂) RA x.good fun I s₁ g₁ hI hit => ?_)
    (fun v s₁ h₁ => wpAny_bind (wpAny_standAt (wpAny_bind (wpAny_of_eq (hf env v) (wpAny_bind (wpAny_holding h₁)))))) fun _ _ e => e)
  have hIo : ∃ o, s₁.heap.get? I = some o := let ⟨o, _, ho, _⟩ := hit.plain; ⟨o, ho⟩
  have x₁ := x.enter g₁.heap hI hIo
  have hWI : ¬ W I := fun q => by obtain ⟨o, ho⟩ := x.good.stand I (x.good.wx I q); rw [hI] at ho; cases ho
  have hYI : ¬ Y I := fun q => by obtain ⟨o, ho⟩ := x.good.stand I q; rw [hI] at ho; cases ho
  have hIB : P.hB.get? I = none := none_back x.good.base hI
  have hID : I ≠ D := fun q => by obtain ⟨vs, ⟨_, ho⟩, _⟩ := x.acc; rw [← q, hI] at ho; cases ho
  have lp : codeAny (model P.prog P.w) A (.compLoop (.ListComp elt [⟨t₀, iter₀, ifs₀, 0⟩, ⟨t, iter, ifs, 0⟩] scope pos) 1 (.ref I) (.ref D) env) (fun r s' => match r with | .ok f => wpAny (model P.prog P.w) A (pure ()) Q E s' | .error e => cameBackBy (model P.prog P.w) A env E e s') s₁ := by
    refine clause_loop (turn_eq2 ..) (fun _ _ _ hh => Bdy.one hb hh) hl RA hc hlen x₁ hit (.inr rfl) hWI hIB hID (Y₀ := Y) (fun b q => .inl q) hYI (fun b q => q) fun s₂ x₂ k₂ => wpAny_pure (hq s₂ x₂ ?_)
    exact (g₁.kept (W := fun b => b = env.locals ∨ b = D)).then (W' := fun b => b = env.locals ∨ b = D ∨ b = I) (fun b q => by
      rcases q with q | q | q
      · exact .inl (.inl q)
      · exact .inl (.inr q)
      · exact .inr (by rw [q]; exact hI)) k₂
  exact wpAny_bind (wpAny_runOwn (start1 lp (IterAt.self RA.handled hit lp)))⟩

/-- a comprehension's loop is sound -/
structure LoopOk (P : Par) (k : Nat) (sc : Scope) (e : Expr) (n : Nm) (ds ys : List PV) : Prop where
  go : ∀ {A : Around} {env : Env} {W Y Y₀ : Addr → Prop} {D I : Addr} {s : Shared} {R : Result → Shared → Prop}, Room k A → CSt P sc n env W Y D [] s.heap → IterAt P Y I ds s.heap → Y I → ¬ W I → P.hB.get? I = none → I ≠ D → (∀ b, Y₀ b → Y b) → ¬ Y₀ I → (∀ b, Y b → Y₀ b ∨ b = I) →
    (∀ n' s', CSt P sc n' env W Y₀ D ys s'.heap → Kept (fun b => b = env.locals ∨ b = D ∨ b = I) s s' → R (.ok .next) s') → codeAny (model P.prog P.w) A (.compLoop e 0 (.ref I) (.ref D) env) R s
theorem LoopOk.one {elt t iter : Expr} {ifs : List Expr} {scope : Scope} {pos : Pos} {ds ys : List PV} (hl : locT sc t = true) (hc : Cp1 P k sc elt t ifs n ds ys n') (hz : small ys.length = true) :
    LoopOk P k sc (.ListComp elt [⟨t, iter, ifs, 0⟩] scope pos) n ds ys := ⟨fun RA x hit hY hW hB hD h1 h2 h3 hR =>
  clause_loop (bound := 4096) (turn_eq1 ..) (fun _ _ _ hh => Bdy.one (Nat.le_refl _) hh) hl RA hc (by have := small_le hz; simpa using this) x hit hY hW hB hD h1 h2 h3 fun s' x' k' => hR _ s' (by simpa using x') k'⟩
theorem LoopOk.two {elt t₀ iter₀ t iter : Expr} {ifs₀ ifs : List Expr} {scope : Scope} {pos : Pos} {ds ys : List PV} (hl₀ : locT sc t₀ = true) (hl : locT sc t = true) (hf : ∀ env x, foldedSetIterable iter env x = pure x)
    (hc : Cp2 P k sc elt t₀ ifs₀ t iter ifs n ds ys n') (hz : small ys.length = true) : LoopOk P k sc (.ListComp elt [⟨t₀, iter₀, ifs₀, 0⟩, ⟨t, iter, ifs, 0⟩] scope pos) n ds ys := ⟨fun RA x hit hY hW hB hD h1 h2 h3 hR =>
  clause_loop (bound := 4096) (turn_eq0 ..) (fun _ _ _ hh => Bdy.two (Nat.le_refl _) hl hf hh) hl₀ RA hc (by have := small_le hz; simpa using this) x hit hY hW hB hD h1 h2 h3 fun s' x' k' => hR _ s' (by simpa using x') k'⟩
end

/-- the scope of a comprehension inside a block -/
def relab (scope sc : Scope) : Scope := { scope with names := scope.names.map fun (n, k) => if (k == .free && sc.kind == .function && sc.names.lookup n == some .cell) then (n, .cell) else (n, k) }
def compOk (scope sc : Scope) : Bool := (scope.kind == .function) && (scope.names.all fun p => p.2 != .cell) && (scope.names.all fun p => p.2 != .local || scope.names.lookup p.1 == some .local) &&
  (scope.names.all fun p => p.2 != .free || (sc.names.lookup p.1 == some .cell || sc.names.lookup p.1 == some .free))
/-- the names that a comprehension sees of the block around it -/
def inner (scope : Scope) (n : Nm) : Nm := ⟨n.ρ.filter fun p => scope.names.lookup p.1 == some .free, none, none⟩

theorem lookup_relab {scope sc : Scope} (x : Str) : (relab scope sc).names.lookup x = (scope.names.lookup x).map fun k => if (k == .free && sc.kind == .function && sc.names.lookup x == some .cell) then .cell else k := by
  unfold relab
  show List.lookup x (scope.names.map _) = _
  generalize scope.names = l
  induction l with
  | nil => rfl
  | cons p r ih =>
    obtain ⟨y, k⟩ := p
    simp only [List.map_cons]
    by_cases q : x = y
    · subst q
      by_cases z : (k == NameKind.free && sc.kind == .function && sc.names.lookup x == some .cell) = true
      · rw [if_pos z]; simp only [List.lookup, beq_self_eq_true, Option.map_some]; rw [if_pos z]
      · rw [if_neg z]; simp only [List.lookup, beq_self_eq_true, Option.map_some]; rw [if_neg z]
    · have q' : (x == y) = false := beq_false_of_ne q
      by_cases z : (k == NameKind.free && sc.kind == .function && sc.names.lookup y == some .cell) = true
      · rw [if_pos z]; simp only [List.lookup, q']; exact ih
      · rw [if_neg z]; simp only [List.lookup, q']; exact ih
theorem lookup_filter {ρ : Rho} {p : Str → Bool} {x : Str} {d : PV} : (ρ.filter fun q => p q.1).lookup x = some d → p x = true ∧ ρ.lookup x = some d := by
  induction ρ with
  | nil => intro h; cases h
  | cons q r ih =>
    obtain ⟨y, e⟩ := q
    intro h
    by_cases hp : p y = true
    · rw [List.filter_cons_of_pos (by exact hp)] at h
      by_cases z : x = y
      · subst z; simp [List.lookup] at h ⊢; exact ⟨hp, h⟩
      · have z' : (x == y) = false := beq_false_of_ne z
        simp only [List.lookup, z'] at h ⊢
        exact ih h
    · rw [List.filter_cons_of_neg (by exact hp)] at h
      obtain ⟨h1, h2⟩ := ih h
      refine ⟨h1, ?_⟩
      by_cases z : x = y
      · subst z; exact (hp h1).elim
      · have z' : (x == y) = false := beq_false_of_ne z
        simp only [List.lookup, z']
        exact h2
theorem mem_lookup {l : List (Str × NameKind)} {x : Str} {k : NameKind} : l.lookup x = some k → (x, k) ∈ l := by
  induction l with
  | nil => intro h; cases h
  | cons p r ih =>
    obtain ⟨y, j⟩ := p
    intro h
    by_cases z : x = y
    · subst z; simp [List.lookup] at h; subst h; exact .head _
    · simp only [List.lookup, beq_false_of_ne z] at h
      exact .tail _ (ih h)
end Mine

end
noncomputable section
open PySem PySem.W PyProof.Rows PySem.Calls
set_option Elab.async false
set_option linter.unusedVariables false
namespace Mine

section
variable {P : Par} {k : Nat} {sc : Scope} {n : Nm} {env : Env} {W X : Addr → Prop} {s : Shared} {A : Around} {E : Value → Shared → Prop}
theorem compOk_parts {scope : Scope} (h : compOk scope sc = true) : scope.kind = .function ∧ (∀ p ∈ scope.names, p.2 ≠ .cell) ∧ (∀ p ∈ scope.names, p.2 = .local → scope.names.lookup p.1 = some .local) ∧
    (∀ p ∈ scope.names, p.2 = .free → sc.names.lookup p.1 = some .cell ∨ sc.names.lookup p.1 = some .free) := by
  unfold compOk at h
  simp only [Bool.and_eq_true, List.all_eq_true, Bool.or_eq_true, bne_iff_ne, beq_iff_eq] at h
  obtain ⟨⟨⟨h1, h2⟩, h3⟩, h4⟩ := h
  exact ⟨h1, h2, fun p hp e => (h3 p hp).resolve_left fun q => q e, fun p hp e => (h4 p hp).resolve_left fun q => q e⟩

/-- the comprehension's own block -/
theorem comp_good {scope : Scope} {C : Addr} {h' : Heap} {Y : Addr → Prop} (hs : compOk scope sc = true) (G : Good P sc n env W X s.heap) (hk : ∀ b o, s.heap.get? b = some o → h'.get? b = some o) (hn : h'.Ns C fun _ => none)
    (hC : s.heap.get? C = none) (hXY : ∀ b, X b → Y b) (hYC : Y C) (hY : ∀ b, Y b → X b ∨ (s.heap.get? b = none ∧ ∃ o, h'.get? b = some o)) :
    Good P (relab scope sc) (inner scope n) (compEnvC scope (clOf env scope.names []) C env) (fun b => b = C ∨ ∃ x, (clOf env scope.names []).lookup x = some b) Y h' := by
  obtain ⟨h1, h2, h3, h4⟩ := compOk_parts hs
  obtain ⟨m, F, hm, _⟩ := G.names
  have sub : ∀ x c, (clOf env scope.names []).lookup x = some c → env.cells.lookup x = some c := fun x c e => clOf_sub _ _ x c (fun _ _ e => by cases e) e
  have hy : ∀ b o, ¬ X b → s.heap.get? b = some o → ¬ Y b := fun b o hb e q => (hY b q).elim hb fun z => by rw [z.1] at e; cases e
  have hcellX : ∀ x c, env.cells.lookup x = some c → W c := fun x c e => G.priv c (.inr ⟨x, e⟩)
  refine ⟨?_, G.globals, G.bns, fun b o e => hk b o (G.base b o e), fun b hb => ?_, fun b hb => ?_, fun b hb => ?_, fun b hb => hb, ⟨fun x y c e1 e2 => G.apart.inj x y c (sub _ _ e1) (sub _ _ e2), fun x c e q => ?_⟩, ?_⟩
  · show relabel scope env = _
    unfold relabel relab
    rw [← G.scope]; rfl
  · rcases hY b hb with q | q
    · obtain ⟨o, ho⟩ := G.stand b q; exact ⟨o, hk b o ho⟩
    · exact q.2
  · rcases hb with q | ⟨x, q⟩
    · rw [q]; exact hYC
    · exact hXY b (G.wx b (hcellX x b (sub x b q)))
  · rcases hb with q | ⟨x, q⟩
    · rw [q]; exact none_back G.base hC
    · exact G.wb b (hcellX x b (sub x b q))
  · have q' : c = C := q
    obtain ⟨o, ho⟩ := G.stand c (G.wx c (hcellX x c (sub x c e)))
    rw [q', hC] at ho; cases ho
  · have kindEq : ∀ x, Env.kindOf (compEnvC scope (clOf env scope.names []) C env) x = (relab scope sc).names.lookup x := fun x => by
      show (relabel scope env).names.lookup x = _
      unfold relabel relab
      rw [← G.scope]; rfl
    refine ⟨fun x => if scope.names.lookup x = some .free then m x else none, ⟨h1, ⟨_, hn, fun x hx => ?_⟩, fun x hx => ?_⟩, fun x d hd => ?_, (fun x xs e => nomatch e), fun x a dx fs e => nomatch e⟩
    · rw [kindEq, lookup_relab] at hx
      rw [if_neg]
      intro q
      rw [q] at hx
      simp only [Option.map_some] at hx
      split at hx <;> cases hx
    · rw [kindEq, lookup_relab] at hx
      have hfree : scope.names.lookup x = some .free := by
        cases e : scope.names.lookup x with
        | none => rw [e] at hx; rcases hx with q | q <;> cases q
        | some j =>
          rw [e] at hx
          simp only [Option.map_some] at hx
          have hj := h2 _ (mem_lookup e)
          split at hx
          · rename_i z
            simp only [Bool.and_eq_true, beq_iff_eq] at z
            rw [z.1.1]
          · rcases hx with q | q <;> cases q
            · exact (hj rfl).elim
            · rfl
      rw [if_pos hfree]
      obtain ⟨c, hc, hcell⟩ := F.cel x (by rw [Env.kindOf, G.scope]; exact h4 _ (mem_lookup hfree) rfl)
      exact ⟨c, clOf_has _ _ x c (fun _ _ e => by cases e) (mem_lookup hfree) hc, let ⟨o, ho, hd⟩ := hcell; ⟨o, hk _ o ho, hd⟩⟩
    · obtain ⟨e1, e2⟩ := lookup_filter (p := fun x => scope.names.lookup x == some .free) hd
      obtain ⟨v, hv, r⟩ := hm x d e2
      refine ⟨v, ?_, r.keep (fun b o _ e => hk b o e) hy⟩
      show (if _ then _ else _) = _
      rw [if_pos (by simpa using e1)]
      exact hv

/-- the comprehension, up to its end -/
theorem comp_core {elt t iter : Expr} {ifs : List Expr} {gs : List Comprehension} {scope : Scope} {pos p : Pos} {ds ys : List PV} {use : Option (Value → Sem Unit)} {Q : Value → Shared → Prop} (hs : compOk scope sc = true) (hsrc : Src P k sc n iter ds) (hf : ∀ env x, foldedSetIterable iter env x = pure x)
    (hl : LoopOk P k (relab scope sc) (.ListComp elt (⟨t, iter, ifs, 0⟩ :: gs) scope pos) (inner scope n) ds ys) (RA : Room k A) (G : Good P sc n env W X s.heap)
    (hQ : ∀ C D s', Grow s s' → s.heap.get? C = none → s.heap.get? D = none → C ≠ D → (∃ m, s'.heap.Ns C m) → Rep P.C (fun b => X b ∨ b = C) s'.heap (.ref D) (.list ys) → compPost (model P.prog P.w) A E use Q (.ref D) C (.ok .next) s') :
    wpAny (model P.prog P.w) A (comprehension (.ListComp elt (⟨t, iter, ifs, 0⟩ :: gs) scope pos) scope env p (newList []) false (eval iter env) use) Q E s := by
  obtain ⟨h1, h2, h3, h4⟩ := compOk_parts hs
  have hcl : closureFor scope env = pure (clOf env scope.names []) := closure_eq fun p hp e => by
    obtain ⟨m, F, _⟩ := G.names
    obtain ⟨c, hc, _⟩ := F.cel p.1 (by rw [Env.kindOf, G.scope]; exact h4 p hp e)
    exact ⟨c, hc⟩
  refine wpAny_comprehension_free rfl (hf env) hcl h1 h3 (hsrc.go RA G fun I s₂ g₂ hI hit => ?_)
  refine wpAny_newObj_type (wpAny_newFunctionEnv h2 (by intro y hy; simp at hy) (fun h₁ hns₁ hsb₁ => ?_) h1)
  dsimp only at hns₁ hsb₁ ⊢
  generalize hH2 : s₂.heap.push { cls := .type "list", dict := none, data := .seq ([] : List Value).toArray } = H2 at hns₁ hsb₁ ⊢
  have hC : H2.objs.size = s₂.heap.objs.size + 1 := by rw [← hH2, Heap.size_push]
  have hDC : s₂.heap.objs.size ≠ H2.objs.size := by rw [hC]; exact Nat.ne_of_lt (Nat.lt_succ_self _)
  have old : ∀ b o, s₂.heap.get? b = some o → h₁.get? b = some o := fun b o e => hsb₁.extBut b o (by have := Heap.lt_size e; rw [hC]; exact Nat.ne_of_lt (Nat.lt_succ_of_lt this)) (Heap.get?_push_of_some _ (hH2 ▸ Heap.get?_push_of_some _ e))
  have new2 : ∀ b, s₂.heap.objs.size ≤ b → s₂.heap.get? b = none := fun b hb => by
    cases e : s₂.heap.get? b with
    | none => rfl
    | some o => exact absurd (Heap.lt_size e) (Nat.not_lt.mpr hb)
  have new : ∀ b, s₂.heap.objs.size ≤ b → s.heap.get? b = none := fun b hb => none_back g₂.heap (new2 b hb)
  have hCl : s₂.heap.objs.size ≤ H2.objs.size := by rw [hC]; exact Nat.le_succ _
  have hacc : h₁.get? s₂.heap.objs.size = some { cls := .type "list", dict := none, data := .seq ([] : List Value).toArray } := hsb₁.extBut _ _ hDC (Heap.get?_push_of_some _ (hH2 ▸ Heap.get?_push_size _ rfl))
  generalize hCe : H2.objs.size = C at *
  generalize hDe : s₂.heap.objs.size = D at *
  have hIo : ∃ o, s₂.heap.get? I = some o := let ⟨o, _, ho, _⟩ := hit.plain; ⟨o, ho⟩
  have hCo : ∃ o, h₁.get? C = some o := let ⟨o, _, _, ho, _⟩ := hns₁; ⟨o, ho⟩
  have hIC : I ≠ C := fun q => by obtain ⟨o, ho⟩ := hIo; rw [q, new2 C hCl] at ho; cases ho
  have hID : I ≠ D := fun q => by obtain ⟨o, ho⟩ := hIo; rw [q, new2 D (Nat.le_refl _)] at ho; cases ho
  have hXn : ∀ b, s.heap.get? b = none → ¬ X b := fun b hb q => by obtain ⟨o, ho⟩ := G.stand b q; rw [hb] at ho; cases ho
  have hkall : ∀ b o, s.heap.get? b = some o → h₁.get? b = some o := fun b o e => old b o (g₂.heap b o e)
  have G₁ := comp_good (C := C) (h' := h₁) (Y := fun b => ((X b ∨ b = C) ∨ b = D) ∨ b = I) hs G hkall hns₁ (new C hCl) (fun b q => .inl (.inl (.inl q))) (.inl (.inl (.inr rfl))) fun b q => by
    rcases q with ((q | q) | q) | q
    · exact .inl q
    · exact .inr (by rw [q]; exact ⟨new C hCl, hCo⟩)
    · exact .inr (by rw [q]; exact ⟨new D (Nat.le_refl _), _, hacc⟩)
    · exact .inr (by rw [q]; obtain ⟨o, ho⟩ := hIo; exact ⟨hI, o, old I o ho⟩)
  have hWn : ∀ b, s.heap.get? b = none → b ≠ C → ¬ (b = C ∨ ∃ x, (clOf env scope.names []).lookup x = some b) := fun b hb hne q => by
    rcases q with q | ⟨x, q⟩
    · exact hne q
    · have := clOf_sub _ _ x b (fun _ _ e => by cases e) q
      exact hXn b hb (G.wx b (G.priv b (.inr ⟨x, this⟩)))
  have x₁ : CSt P (relab scope sc) (inner scope n) (compEnvC scope (clOf env scope.names []) C env) (fun b => b = C ∨ ∃ x, (clOf env scope.names []).lookup x = some b) (fun b => ((X b ∨ b = C) ∨ b = D) ∨ b = I) D [] h₁ :=
    ⟨G₁, ⟨#[], ⟨_, hacc⟩, .nil⟩, .inl (.inr rfl), hWn D (new D (Nat.le_refl _)) hDC, none_back G.base (new D (Nat.le_refl _))⟩
  have hit₁ : IterAt P (fun b => ((X b ∨ b = C) ∨ b = D) ∨ b = I) I ds h₁ := hit.keep (fun b o _ e => old b o e) (fun o e => old I o e) fun b o hb e q => by
    rcases q with ((q | q) | q) | q
    · exact hb (.inl q)
    · rw [q, new2 C hCl] at e; cases e
    · rw [q, new2 D (Nat.le_refl _)] at e; cases e
    · exact hb (.inr q)
  have lp : ∀ tk, codeAny (model P.prog P.w) A (.compLoop (.ListComp elt (⟨t, iter, ifs, 0⟩ :: gs) scope pos) 0 (.ref I) (.ref D) (compEnvC scope (clOf env scope.names []) C env)) (compPost (model P.prog P.w) A E use Q (.ref D) C) { s₂ with heap := h₁, toks := tk } := fun tk => by
    refine hl.go (s := { s₂ with heap := h₁, toks := tk }) (Y₀ := fun b => (X b ∨ b = C) ∨ b = D) RA x₁ hit₁ (.inr rfl) (hWn I hI hIC) (none_back G.base hI) hID (fun b q => .inl q) (fun q => ?_) (fun b q => q) fun n' s' x' k' => ?_
    · rcases q with (q | q) | q
      · exact hXn I hI q
      · exact hIC q
      · exact hID q
    · have grow : Grow s s' := ⟨fun b o e => k'.heap b o (fun q => by
          rcases q with q | q | q
          · have q' : b = C := q
            rw [q', new C hCl] at e; cases e
          · rw [q, new D (Nat.le_refl _)] at e; cases e
          · rw [q, hI] at e; cases e) (hkall b o e), k'.gens.trans g₂.gens, k'.drawn.trans g₂.drawn, k'.os.trans g₂.os⟩
      obtain ⟨m', F', _⟩ := x'.good.names
      obtain ⟨ml, hn', _⟩ := F'.loc
      obtain ⟨vs, hv1, hv2⟩ := x'.acc
      refine hQ C D s' grow (new C hCl) (new D (Nat.le_refl _)) (Ne.symm hDC) ⟨ml, hn'⟩ (.list (fun q => ?_) hv1 (hv2.weaken fun b q => .inl q))
      rcases q with q | q
      · exact hXn D (new D (Nat.le_refl _)) q
      · exact hDC q
  exact codeAny_compStart_list (lp _) (IterAt.self (s := { s₂ with heap := h₁, toks := _ }) RA.handled hit₁ (lp _))

theorem Ev.comp {elt t iter : Expr} {ifs : List Expr} {gs : List Comprehension} {scope : Scope} {pos : Pos} {ds ys : List PV} (hs : compOk scope sc = true) (hsrc : Src P k sc n iter ds) (hf : ∀ env x, foldedSetIterable iter env x = pure x)
    (hl : LoopOk P k (relab scope sc) (.ListComp elt (⟨t, iter, ifs, 0⟩ :: gs) scope pos) (inner scope n) ds ys) : Ev P k sc n (.ListComp elt (⟨t, iter, ifs, 0⟩ :: gs) scope pos) (.list ys) := ⟨by
  intro A env W X s E Q RA G h
  rw [eval_ListComp]
  refine comp_core hs hsrc hf hl RA G fun C D s' g hC hD hCD hn r => ?_
  obtain ⟨m, hn⟩ := hn
  refine ⟨m, hn, fun h' hs' => h _ _ ⟨fun b o e => hs'.extBut b o (fun q => by rw [q, hC] at e; cases e) (g.heap b o e), g.gens, g.drawn, g.os⟩ (r.keep (fun b o hb e => hs'.extBut b o (fun q => hb (.inr q)) e) fun b _ hb _ q => hb (.inl q))⟩⟩

theorem Ex1.assignComp {elt t iter : Expr} {ifs : List Expr} {gs : List Comprehension} {scope : Scope} {p pos cpos : Pos} {y : Str} {ds ys : List PV} (hs : compOk scope sc = true) (hsrc : Src P k sc n iter ds) (hf : ∀ env x, foldedSetIterable iter env x = pure x)
    (hl : LoopOk P k (relab scope sc) (.ListComp elt (⟨t, iter, ifs, 0⟩ :: gs) scope cpos) (inner scope n) ds ys) (hy : storable (sc.names.lookup y) = true)
    (hw : ∀ env : Env, env.scope = sc → swapsWith (.ListComp elt (⟨t, iter, ifs, 0⟩ :: gs) scope cpos) (some (.Name y p)) pos.line env = pure true) :
    Ex1 P k sc n (.Assign [.Name y p] (.ListComp elt (⟨t, iter, ifs, 0⟩ :: gs) scope cpos) pos) (.next (n.put y (.list ys))) := ⟨by
  intro A env W X₀ s E Q RA G hW h
  rw [exec_Assign_Name_used _ _ _ _ (hw env G.scope)]
  refine wpAny_bind (wpAny_standAt (wpAny_bind ?_))
  show wpAny _ A (do let _ ← comprehension (.ListComp elt (⟨t, iter, ifs, 0⟩ :: gs) scope cpos) scope env _ (newList []) false (eval iter env) (some (PySem.assign (.Name y p) env))) _ _ s
  refine wpAny_bind (wpAny_mono (comp_core (Q := fun _ s' => Q .next s') hs hsrc hf hl RA G fun C D s' g hC hD hCD hn r => ?_) (fun _ s' hq => wpAny_pure (wpAny_pure hq)) fun _ _ e => e)
  obtain ⟨m, hn⟩ := hn
  have hXn : ∀ b, s.heap.get? b = none → ¬ U X₀ W b := fun b hb q => by obtain ⟨o, ho⟩ := G.stand b q; rw [hb] at ho; cases ho
  have hCo : ∃ o, s'.heap.get? C = some o := let ⟨o, _, _, ho, _⟩ := hn; ⟨o, ho⟩
  have G' : Good P sc n env W (fun b => U X₀ W b ∨ b = C) s'.heap := G.enter g.heap hC hCo (fun b q => .inl q) fun b q => q
  have hWC : ¬ W C := fun q => hXn C hC (.inr q)
  show wpAny _ A (PySem.assign (.Name y p) env (.ref D)) _ _ _
  refine wpAny_assign_Name (store_ok G' hy r fun h'' tk G'' kp => ?_)
  refine ⟨m, ns_keep hn fun o e => kp C o hWC e, fun h₃ hs₃ => h W _ (Then.same ?_ hW ?_)⟩
  · exact G''.shift (I := C) (fun b o hb e => hs₃.extBut b o hb e) (.inr rfl) hWC (none_back G.base hC) (fun b q => .inl q) (fun b q => .inr q) fun q => (hXn C hC q).elim
  · exact ⟨fun b o hb e => hs₃.extBut b o (fun q => by rw [q, hC] at e; cases e) (kp b o hb (g.heap b o e)), g.gens, g.drawn, g.os⟩⟩
end
end Mine

end
noncomputable section
open PySem PySem.W PyProof.Rows PySem.Calls
set_option Elab.async false
set_option linter.unusedVariables false
namespace Mine

theorem bindL_off {K : Str → Option NameKind} : ∀ {binds : List (Str × Value)} {m : Str → Option Value} {x : Str}, (∀ p ∈ binds, p.1 ≠ x) → bindL K binds m x = m x
  | [], m, x, h => rfl
  | (y, v) :: r, m, x, h => by
    unfold bindL
    rw [bindL_off fun p hp => h p (.tail _ hp)]
    have : x ≠ y := fun q => h (y, v) (.head _) q.symm
    split
    · exact if_neg this
    · rfl
theorem bindC_off {K : Str → Option NameKind} : ∀ {binds : List (Str × Value)} {m : Str → Option Value} {x : Str}, (∀ p ∈ binds, p.1 ≠ x) → bindC K binds m x = m x
  | [], m, x, h => rfl
  | (y, v) :: r, m, x, h => by
    unfold bindC
    rw [bindC_off fun p hp => h p (.tail _ hp)]
    have : x ≠ y := fun q => h (y, v) (.head _) q.symm
    split
    · rfl
    · exact if_neg this
theorem bindL_on {K : Str → Option NameKind} : ∀ {names : List Str} {vs : List Value} {m : Str → Option Value} {x : Str} {v : Value}, names.Nodup → (names.zip vs).lookup x = some v → K x = some .local → bindL K (names.zip vs) m x = some v
  | [], vs, m, x, v, hn, h, hk => by cases h
  | y :: r, [], m, x, v, hn, h, hk => by cases h
  | y :: r, u :: us, m, x, v, hn, h, hk => by
    rw [List.nodup_cons] at hn
    rw [List.zip_cons_cons] at h ⊢
    unfold bindL
    by_cases q : x = y
    · subst q
      simp [List.lookup] at h
      subst h
      rw [bindL_off (x := x) fun p hp e => hn.1 (e ▸ (List.of_mem_zip hp).1), if_pos hk]
      exact if_pos rfl
    · simp only [List.lookup, beq_false_of_ne q] at h
      exact bindL_on hn.2 h hk
theorem bindC_on {K : Str → Option NameKind} : ∀ {names : List Str} {vs : List Value} {m : Str → Option Value} {x : Str} {v : Value}, names.Nodup → (names.zip vs).lookup x = some v → K x = some .cell → bindC K (names.zip vs) m x = some v
  | [], vs, m, x, v, hn, h, hk => by cases h
  | y :: r, [], m, x, v, hn, h, hk => by cases h
  | y :: r, u :: us, m, x, v, hn, h, hk => by
    rw [List.nodup_cons] at hn
    rw [List.zip_cons_cons] at h ⊢
    unfold bindC
    by_cases q : x = y
    · subst q
      simp [List.lookup] at h
      subst h
      rw [bindC_off (x := x) fun p hp e => hn.1 (e ▸ (List.of_mem_zip hp).1), if_neg (by rw [hk]; decide)]
      exact if_pos rfl
    · simp only [List.lookup, beq_false_of_ne q] at h
      exact bindC_on hn.2 h hk
theorem cellsFrom_acc : ∀ {names : List (Str × NameKind)} {a : Nat} {acc : List (Str × Addr)} {x : Str}, (∃ c, acc.lookup x = some c) → ∃ c, (cellsFrom a names acc).lookup x = some c
  | [], a, acc, x, h => h
  | (y, k) :: r, a, acc, x, h => by
    unfold cellsFrom
    split
    · refine cellsFrom_acc ?_
      rw [List.lookup_cons]
      split
      · exact ⟨_, rfl⟩
      · exact h
    · exact cellsFrom_acc h
theorem cellsFrom_has : ∀ {names : List (Str × NameKind)} {a : Nat} {acc : List (Str × Addr)} {x : Str}, (x, NameKind.cell) ∈ names → ∃ c, (cellsFrom a names acc).lookup x = some c
  | [], a, acc, x, h => nomatch h
  | (y, k) :: r, a, acc, x, h => by
    unfold cellsFrom
    rcases List.mem_cons.mp h with q | q
    · cases q
      rw [if_pos (by decide)]
      exact cellsFrom_acc ⟨a, by simp⟩
    · split
      · exact cellsFrom_has q
      · exact cellsFrom_has q
theorem zip_lookup {C : Addr} {X : Addr → Prop} {h : Heap} : ∀ {names : List Str} {vs : List Value} {ds : List PV} {x : Str} {d : PV}, RepL C X h vs ds → (names.zip ds).lookup x = some d → ∃ v, (names.zip vs).lookup x = some v ∧ Rep C X h v d
  | [], vs, ds, x, d, r, e => by cases e
  | y :: r, vs, ds, x, d, hr, e => by
    cases hr with
    | nil => cases e
    | cons a b =>
      rw [List.zip_cons_cons] at e ⊢
      by_cases q : x = y
      · subst q
        simp [List.lookup] at e ⊢
        subst e
        exact a
      · simp only [List.lookup, beq_false_of_ne q] at e ⊢
        exact zip_lookup b e

/-- a function of the program's own -/
structure FnAt (P : Par) (f : Addr) (fd : FuncData) (body : List Stmt) (names : List Str) : Prop where
  obj : ∃ o, P.hB.get? f = some o ∧ o.data = .func fd
  code : P.hB.CodeRec fd.code fd.qualname
  body : fd.body = .stmts body
  clo : fd.closure = []
  glob : fd.globals = mainGlobals
  bns : fd.builtins = builtinsNs
  kind : fd.scope.kind = .function
  co : fd.scope.isCoroutine = false
  gen : fd.scope.isGenerator = false
  nofree : (fd.scope.names.all fun p => p.2 != .free) = true
  args : (names.all fun x => fd.scope.names.lookup x == some .local || fd.scope.names.lookup x == some .cell) = true
  nodup : names.Nodup
  bind : ∀ vs : List Value, vs.length = names.length → bindArgs fd ⟨vs, []⟩ = pure (names.zip vs)

section
variable {P : Par} {k : Nat}
/-- the state in which a function's body starts -/
theorem fn_good {f : Addr} {fd : FuncData} {body : List Stmt} {names : List Str} {vs : List Value} {ds : List PV} {X : Addr → Prop} {s s₁ : Shared} (F : FnAt P f fd body names) (hb : ∀ b o, P.hB.get? b = some o → s.heap.get? b = some o) (hX : Stand X s.heap) (r : RepL P.C X s.heap vs ds)
    (x : InCallC s (callEnvC fd s.heap.objs.size f).locals (bindL (callEnvC fd s.heap.objs.size f).kindOf (names.zip vs) fun _ => none) (callEnvC fd s.heap.objs.size f).cells
        (bindC (callEnvC fd s.heap.objs.size f).kindOf (names.zip vs) fun _ => none) s₁) :
    Good P fd.scope ⟨names.zip ds, none, none⟩ (callEnvC fd s.heap.objs.size f) (Priv (callEnvC fd s.heap.objs.size f)) (U X (Priv (callEnvC fd s.heap.objs.size f))) s₁.heap ∧
      (∀ b, Priv (callEnvC fd s.heap.objs.size f) b → s.heap.get? b = none) := by
  have hnew : ∀ b, Priv (callEnvC fd s.heap.objs.size f) b → s.heap.get? b = none := fun b hb => by
    have hle : s.heap.objs.size ≤ b := by
      rcases hb with q | ⟨y, q⟩
      · rw [q]; exact x.toInCall.fresh
      · exact Nat.le_of_lt (Nat.lt_of_le_of_lt x.toInCall.fresh (x.above y b (mem_of_lookup q)))
    cases e : s.heap.get? b with
    | none => rfl
    | some o => exact absurd (Heap.lt_size e) (Nat.not_lt.mpr hle)
  have keep := x.toInCall.keep
  have hy : ∀ b o, ¬ X b → s.heap.get? b = some o → ¬ U X (Priv (callEnvC fd s.heap.objs.size f)) b := fun b o hb e q => q.elim hb fun z => by rw [hnew b z] at e; cases e
  refine ⟨⟨rfl, F.glob, F.bns, fun b o e => keep b o (hb b o e), fun b q => ?_, fun b q => .inr q, fun b q => none_back hb (hnew b q), fun b q => q,
    ⟨fun y z c e1 e2 => name_of_addr x.apart (mem_of_lookup e1) (mem_of_lookup e2), fun y c e q => ?_⟩, ?_⟩, hnew⟩
  · rcases q with q | q | ⟨y, q⟩
    · obtain ⟨o, ho⟩ := hX b q; exact ⟨o, keep b o ho⟩
    · obtain ⟨o, _, _, ho, _⟩ := x.toInCall.ns; exact ⟨o, by rw [q]; exact ho⟩
    · obtain ⟨o, ho, _⟩ := x.cell y b q; exact ⟨o, ho⟩
  · have := x.above y c (mem_of_lookup e)
    exact absurd q (Nat.ne_of_gt this)
  · refine ⟨fun y => if (callEnvC fd s.heap.objs.size f).kindOf y = some .local then bindL (callEnvC fd s.heap.objs.size f).kindOf (names.zip vs) (fun _ => none) y else bindC (callEnvC fd s.heap.objs.size f).kindOf (names.zip vs) (fun _ => none) y,
      ⟨F.kind, ⟨_, x.toInCall.ns, fun y hy => by rw [if_pos hy]⟩, fun y hy => ?_⟩, fun y d hd => ?_, (fun y xs e => nomatch e), fun x a dx fs e => nomatch e⟩
    · have hnl : ¬ (callEnvC fd s.heap.objs.size f).kindOf y = some .local := fun q => by rw [q] at hy; rcases hy with q | q <;> cases q
      rw [if_neg hnl]
      rcases hy with q | q
      · obtain ⟨c, hc⟩ := cellsFrom_has (a := s.heap.objs.size + 1) (acc := []) (mem_lookup q)
        exact ⟨c, hc, x.cell y c hc⟩
      · have := List.all_eq_true.mp F.nofree _ (mem_lookup q)
        simp at this
    · obtain ⟨v, hv, rv⟩ := zip_lookup r hd
      refine ⟨v, ?_, rv.keep (fun b o _ e => keep b o e) hy⟩
      have hmem : y ∈ names := (List.of_mem_zip (mem_of_lookup hv)).1
      have := List.all_eq_true.mp F.args y hmem
      simp only [Bool.or_eq_true, beq_iff_eq] at this
      rcases this with q | q
      · have q' : (callEnvC fd s.heap.objs.size f).kindOf y = some .local := q
        show (if _ then _ else _) = _
        rw [if_pos q']
        exact bindL_on F.nodup hv q'
      · have q' : (callEnvC fd s.heap.objs.size f).kindOf y = some .cell := q
        show (if _ then _ else _) = _
        rw [if_neg (by rw [q']; decide)]
        exact bindC_on F.nodup hv q'

theorem Cal.fn {f : Addr} {fd : FuncData} {body : List Stmt} {names : List Str} {ds : List PV} {d : PV} (F : FnAt P f fd body names) (hlen : ds.length = names.length) (hx : Ex P k fd.scope ⟨names.zip ds, none, none⟩ body (.ret d)) : Cal P (k + 1) (.ref f) ds d := ⟨by
  intro A X s E Q vs RA hb hX r hq
  obtain ⟨o, ho, hd⟩ := F.obj
  have hvl : vs.length = names.length := r.length.trans hlen
  have hkind : ∀ x ∈ names.zip vs, fd.scope.names.lookup x.1 = some .local ∨ (fd.scope.names.lookup x.1 = some .cell ∧ ((cellsFrom (s.heap.objs.size + 1) fd.scope.names []).lookup x.1).isSome = true) := fun x hx => by
    have := List.all_eq_true.mp F.args x.1 (List.of_mem_zip hx).1
    simp only [Bool.or_eq_true, beq_iff_eq] at this
    rcases this with q | q
    · exact .inl q
    · refine .inr ⟨q, ?_⟩
      obtain ⟨c, hc⟩ := cellsFrom_has (a := s.heap.objs.size + 1) (acc := []) (mem_lookup q)
      rw [hc]; rfl
  refine wpAny_call (codeAny_call_cells (by have := RA.depth; omega) (hb f o ho) hd (P.lim.keeps hb) (F.code.keeps hb) F.body (F.bind vs hvl) F.clo hkind (fun s₁ x => ?_) F.co F.gen F.kind)
  obtain ⟨G, hnew⟩ := fn_good F hb hX r x
  have gs : Grow s s₁ := by
    obtain ⟨h₁, tk, rfl⟩ := x.toInCall.same
    exact ⟨x.toInCall.keep, rfl, rfl, rfl⟩
  have hW : ∀ b, Priv (callEnvC fd s.heap.objs.size f) b → ¬ X b := fun b q z => by obtain ⟨o, ho⟩ := hX b z; rw [hnew b q] at ho; cases ho
  refine hx.go (RA.deeper _) G hW fun v s' kp rv => hq v s' ?_ rv
  exact ⟨fun b o e => kp.heap b o (fun q => by rw [hnew b q] at e; cases e) (gs.heap b o e), kp.gens.trans gs.gens, kp.drawn.trans gs.drawn, kp.os.trans gs.os⟩⟩
end
end Mine

end
noncomputable section
open PySem PySem.W PyProof.Rows PySem.Calls
set_option Elab.async false
set_option linter.unusedVariables false
namespace Mine

/-- the class: its object and its names -/
structure Kls (P : Par) (N : Addr) (mN : Str → Option Value) : Prop where
  cls : ClsAt P.hB P.C N mN
  ga : mN "__getattribute__" = none
  gt : mN "__getattr__" = none

theorem RepF.get {C : Addr} {X : Addr → Prop} {h : Heap} {m : Str → Option Value} : ∀ {fs : List (Str × PV)} {x : Str} {d : PV}, RepF C X h m fs → fs.lookup x = some d → ∃ v, m x = some v ∧ Rep C X h v d
  | [], x, d, r, e => by cases e
  | (y, e') :: fs, x, d, r, e => by
    cases r with
    | cons hv ra rb =>
      by_cases q : x = y
      · subst q
        simp [List.lookup] at e
        subst e
        exact ⟨_, hv, ra⟩
      · simp only [List.lookup, beq_false_of_ne q] at e
        exact RepF.get rb e
theorem Rep.handed {C : Addr} {X : Addr → Prop} {h : Heap} {v : Value} {d : PV} (r : Rep C X h v d) : handedOut v = pure v := by cases r <;> rfl

theorem Rep.typed {C : Addr} {X : Addr → Prop} {s : Shared} {v : Value} {d : PV} {T : String} (r : Rep C X s.heap v d) (hT : (∃ x, d = .str x ∧ T = "str") ∨ (∃ xs, d = .list xs ∧ T = "list")) :
    s.TypeIs v T ∧ ∀ a, v = .ref a → ∃ ob, s.heap.get? a = some ob ∧ ob.dict = Option.none := by
  rcases hT with ⟨x, rfl, rfl⟩ | ⟨xs, rfl, rfl⟩
  · cases r with
    | str _ t => exact ⟨typeIs_str s x t, fun a e => by cases e⟩
  · cases r with
    | list hn hl hr =>
      obtain ⟨j, hj⟩ := hl
      exact ⟨⟨_, hj, rfl⟩, fun a e => by injection e with e; subst e; exact ⟨_, hj, rfl⟩⟩
section
variable {P : Par} {k : Nat} {sc : Scope} {n : Nm} {N : Addr} {mN : Str → Option Value}
theorem Ev.attr {e : Expr} {name : Str} {pos : Pos} {fs : List (Str × PV)} {d : PV} (K : Kls P N mN) (he : Ev P k sc n e (.obj fs)) (hf : fs.lookup name = some d) (hna : mN name = Option.none) (hB : typeLookup (.type "object") name = pure Option.none)
    (hm : ∀ env, attributeBase e name env (eval e env) = eval e env) : Ev P k sc n (.Attribute e name pos) d := ⟨by
  intro A env W X s E Q R G h
  refine Attribute_any_ (he.go R G fun v s₁ g₁ r₁ => ?_) (by rw [arm_eval_Attribute, hm env])
  cases r₁ with
  | obj hx hd hi hex hr =>
    obtain ⟨u, hu, ru⟩ := hr.get hf
    obtain ⟨nm, q, bs, sn, sub, col, dd, k0, k1, k2, k3, k5, hC⟩ := K.cls.obj
    have hb := (G.grow g₁.heap).base
    obtain ⟨hh, gg, dd', t, os⟩ := s₁
    exact load_attr (hb _ _ hC) (K.cls.ns.keeps hb) K.ga hna hB hi.is hu ru.handed (h _ _ (g₁.trans (Grow.toks _ _)) ru)⟩

/-- a method of the class -/
theorem Ev.meth {o e : Expr} {rest : List Expr} {name : Str} {apos pos : Pos} {fs : List (Str × PV)} {ds : List PV} {d : PV} {f : Addr} {of : Obj} {fd : FuncData} (K : Kls P N mN) (ho : Ev P k sc n o (.obj fs)) (ha : Evs P k sc n (e :: rest) ds) (hf : mN name = some (.ref f))
    (hfo : P.hB.get? f = some of) (hfc : of.cls = .type "function") (hdat : of.data = .func fd) (hfs : fs.lookup name = Option.none) {y : Option Value} (hB : typeLookup (.type "object") name = pure y) (hc : Cal P k (.ref f) (.obj fs :: ds) d)
    (he : ∀ env, starEach (e :: rest) env = (false, eval e env) :: starEach rest env)
    (hm : ∀ env, ∃ pl, eval (.Call (.Attribute o name apos) (e :: rest) [] pos) env = (do let ov ← eval o env; standAt apos.atName; let (f, first) ← holding [ov] (getMethod ov name pl); callWith pos f first (backTo pos (starEach (e :: rest) env)) [])) :
    Ev P k sc n (.Call (.Attribute o name apos) (e :: rest) [] pos) d := ⟨by
  intro A env W X s E Q R G h
  obtain ⟨pl, hm⟩ := hm env
  refine MethodCall_ (pl := pl) ?_ hm
  refine ho.go R G fun v s₁ g₁ r₁ => ?_
  have G₁ := G.grow g₁.heap
  have hr := r₁
  cases r₁ with
  | obj hx hd hi hex _ =>
    obtain ⟨nm, q, bs, sn, sub, col, dd, k0, k1, k2, k3, k5, hC⟩ := K.cls.obj
    obtain ⟨hh, gg, dd', t, os⟩ := s₁
    refine method_of (G₁.base _ _ hC) (K.cls.ns.keeps G₁.base) K.ga K.gt hf (G₁.base _ _ hfo) hfc hB hi.is (hex _ hfs) ?_
    refine callWith_meth (h₀ := P.hB) hdat hfo (ha.go R G₁ fun vs s₂ g₂ r₂ => ⟨(G₁.grow g₂.heap).base, hc.go R (G₁.grow g₂.heap).base (G₁.grow g₂.heap).stand (.cons (hr.grow g₂.heap) r₂) fun v s₃ g₃ r₃ => h v s₃ ((g₁.trans g₂).trans g₃) r₃⟩) (he env)⟩
theorem Ev.meth0 {o : Expr} {name : Str} {apos pos : Pos} {fs : List (Str × PV)} {d : PV} {f : Addr} {of : Obj} {fd : FuncData} (K : Kls P N mN) (ho : Ev P k sc n o (.obj fs)) (hf : mN name = some (.ref f))
    (hfo : P.hB.get? f = some of) (hfc : of.cls = .type "function") (hdat : of.data = .func fd) (hfs : fs.lookup name = Option.none) {y : Option Value} (hB : typeLookup (.type "object") name = pure y) (hc : Cal P k (.ref f) [.obj fs] d)
    (hm : ∀ env, ∃ pl, eval (.Call (.Attribute o name apos) [] [] pos) env = (do let ov ← eval o env; standAt apos.atName; let (f, first) ← holding [ov] (getMethod ov name pl); callWith pos f first (backTo pos (starEach [] env)) [])) :
    Ev P k sc n (.Call (.Attribute o name apos) [] [] pos) d := ⟨by
  intro A env W X s E Q R G h
  obtain ⟨pl, hm⟩ := hm env
  refine MethodCall_ (pl := pl) ?_ hm
  refine ho.go R G fun v s₁ g₁ r₁ => ?_
  have G₁ := G.grow g₁.heap
  have hr := r₁
  cases r₁ with
  | obj hx hd hi hex _ =>
    obtain ⟨nm, q, bs, sn, sub, col, dd, k0, k1, k2, k3, k5, hC⟩ := K.cls.obj
    obtain ⟨hh, gg, dd', t, os⟩ := s₁
    refine method_of (G₁.base _ _ hC) (K.cls.ns.keeps G₁.base) K.ga K.gt hf (G₁.base _ _ hfo) hfc hB hi.is (hex _ hfs) ?_
    exact callWith_meth0 hdat (G₁.base _ _ hfo) (hc.go R G₁.base G₁.stand (.cons hr .nil) fun v s₃ g₃ r₃ => h v s₃ (g₁.trans g₃) r₃)⟩

/-- a method of a built-in type, on a text or a list -/
theorem Ev.bmeth {o e : Expr} {rest : List Expr} {name : Str} {apos pos : Pos} {T id : String} {d₀ : PV} {ds : List PV} {d : PV} (ho : Ev P k sc n o d₀) (ha : Evs P k sc n (e :: rest) ds) (pa : PlainAttrs T) (slot : Slot T name id)
    (hty : typeOf (.builtin id) = pure (.type "method_descriptor")) (hT : (∃ x, d₀ = .str x ∧ T = "str") ∨ (∃ xs, d₀ = .list xs ∧ T = "list")) (hc : Cal P k (.builtin id) (d₀ :: ds) d)
    (he : ∀ env, starEach (e :: rest) env = (false, eval e env) :: starEach rest env) (hp : ∀ pos env, (backTo pos (starEach rest env)).any (·.1) = false)
    (hm : ∀ env, ∃ pl, eval (.Call (.Attribute o name apos) (e :: rest) [] pos) env = (do let ov ← eval o env; standAt apos.atName; let (f, first) ← holding [ov] (getMethod ov name pl); callWith pos f first (backTo pos (starEach (e :: rest) env)) [])) :
    Ev P k sc n (.Call (.Attribute o name apos) (e :: rest) [] pos) d := ⟨by
  intro A env W X s E Q R G h
  obtain ⟨pl, hm⟩ := hm env
  refine MethodCall_ (pl := pl) ?_ hm
  refine ho.go R G fun v s₁ g₁ r₁ => ?_
  have G₁ := G.grow g₁.heap
  have fin : wpAny (model P.prog P.w) A (callWith pos (.builtin id) [v] (backTo pos (starEach (e :: rest) env)) []) Q E s₁ :=
    callWith_method1 (ha.go R G₁ fun vs s₂ g₂ r₂ => hc.go R (G₁.grow g₂.heap).base (G₁.grow g₂.heap).stand (.cons (r₁.grow g₂.heap) r₂) fun v s₃ g₃ r₃ => h v s₃ ((g₁.trans g₂).trans g₃) r₃) (he env) (hp _ _)
  obtain ⟨h1, h2⟩ := r₁.typed hT
  exact getMethod_builtin h1 pa slot hty h2 fin⟩
theorem Ev.bmeth0 {o : Expr} {name : Str} {apos pos : Pos} {T id : String} {d₀ : PV} {d : PV} (ho : Ev P k sc n o d₀) (pa : PlainAttrs T) (slot : Slot T name id)
    (hty : typeOf (.builtin id) = pure (.type "method_descriptor")) (hT : (∃ x, d₀ = .str x ∧ T = "str") ∨ (∃ xs, d₀ = .list xs ∧ T = "list")) (hc : Cal P k (.builtin id) [d₀] d)
    (hm : ∀ env, ∃ pl, eval (.Call (.Attribute o name apos) [] [] pos) env = (do let ov ← eval o env; standAt apos.atName; let (f, first) ← holding [ov] (getMethod ov name pl); callWith pos f first (backTo pos (starEach [] env)) [])) :
    Ev P k sc n (.Call (.Attribute o name apos) [] [] pos) d := ⟨by
  intro A env W X s E Q R G h
  obtain ⟨pl, hm⟩ := hm env
  refine MethodCall_ (pl := pl) ?_ hm
  refine ho.go R G fun v s₁ g₁ r₁ => ?_
  have G₁ := G.grow g₁.heap
  have fin : wpAny (model P.prog P.w) A (callWith pos (.builtin id) [v] (backTo pos (starEach [] env)) []) Q E s₁ :=
    callWith_method0 (hc.go R G₁.base G₁.stand (.cons r₁ .nil) fun v s₃ g₃ r₃ => h v s₃ (g₁.trans g₃) r₃)
  obtain ⟨h1, h2⟩ := r₁.typed hT
  exact getMethod_builtin h1 pa slot hty h2 fin⟩
end
end Mine

end
noncomputable section
open PySem PySem.W PyProof.Rows PySem.Calls
set_option Elab.async false
set_option linter.unusedVariables false
namespace Mine

section
variable {prog : Program} {w : World} {A : Around} {E : Value → Shared → Prop} {s : Shared}
theorem setItem_plain {l : Addr} {items : Array Value} {k : Int} {t : Tok} {v : Value} {Q : Unit → Shared → Prop} (hl : s.heap.PlainList l items)
    (h0 : 0 ≤ k) (hfit : k < 2 ^ 63) (hn : k < items.size)
    (hQ : ∀ h', h'.PlainList l (items.setIfInBounds k.toNat v) → Heap.SameBut l s.heap h' → Q () { s with heap := h' }) :
    wpAny (model prog w) A (setItem (.ref l) (.int k t) v) Q E s := by
  obtain ⟨ne, ho⟩ := id hl
  have hT : s.TypeIs (.ref l) "list" := ⟨_, ho, rfl⟩
  unfold setItem
  try with_reducible refine wpAny_holding ?_
  first | refine wpAny_bind (wpAny_pure ?_) | skip
  refine wpAny_bind (wpAny_sequenceKey hT (by decide) ?_)
  refine wpAny_bind (wpAny_callSpecial?_slot (name := Str.ofString "__setitem__") hT slot_list_setitem
    (wpAny_call_entry slot_list_setitem hT entry_list_setitem ?_ (args_list_setitem _ _ _)))
  show wpAny _ _ (Builtin.List.listSubscript? (.int k t) >>= _) _ _ s
  refine wpAny_bind (wpAny_listSubscript_int (fitsIndex_of h0 hfit) ?_)
  clear hfit
  obtain ⟨j, rfl⟩ := Int.eq_ofNat_of_zero_le h0
  have hj : j < items.size := by omega
  have hx' : items[j]? = some items[j] := Array.getElem?_eq_getElem hj
  show wpAny _ _ ((seqItemAt l j >>= fun r => pure (r.map (j, ·))) >>= _) _ _ s
  refine wpAny_bind (wpAny_bind (wpAny_seqItemAt ho rfl (wpAny_pure ?_)))
  rw [hx']
  show wpAny _ _ (setSeqItemAt l j v >>= _) _ _ s
  have hfin : (s.heap.update l (Obj.mapSeq (·.setIfInBounds j v))).PlainList l (items.setIfInBounds j v) := by
    have e : ∃ n', Obj.mapSeq (·.setIfInBounds j v) { cls := .type "list", data := .seq items ne } = { cls := .type "list", data := .seq (items.setIfInBounds j v) n' } := ⟨_, by simp [Obj.mapSeq]; rfl⟩
    obtain ⟨n', e⟩ := e
    exact ⟨n', by rw [Heap.get?_update_self _ ho (by rw [e]; rfl), e]⟩
  refine wpAny_bind (wpAny_setSeqItemAt ho rfl ?_)
  first
    | exact wpAny_bind (wpAny_pure (wpAny_pure ⟨.none, rfl, wpAny_pure (hQ _ hfin (Heap.SameBut.update ..))⟩))
    | exact wpAny_pure ⟨.none, rfl, wpAny_pure (hQ _ hfin (Heap.SameBut.update ..))⟩
end

/-- a name takes a list that the block alone holds -/
def Nm.putOwn (n : Nm) (x : Str) (xs : List PV) : Nm := ⟨n.ρ.filter fun p => p.1 != x, some (x, xs), match n.me with | some (y, r) => if x == y then none else some (y, r) | none => none⟩

/-- an expression gives a new list -/
structure EvF (P : Par) (k : Nat) (sc : Scope) (n : Nm) (e : Expr) (xs : List PV) : Prop where
  go : ∀ {A : Around} {env : Env} {W X : Addr → Prop} {s : Shared} {E : Value → Shared → Prop} {Q : Value → Shared → Prop}, Room k A → Good P sc n env W X s.heap →
    (∀ a vs s', Grow s s' → s.heap.get? a = none → s'.heap.PlainList a vs → RepL P.C (fun b => X b ∨ b = a) s'.heap vs.toList xs → Q (.ref a) s') → wpAny (model P.prog P.w) A (eval e env) Q E s

theorem Wv.list {C : Addr} {X : Addr → Prop} {h : Heap} {v : Value} {zs : List PV} (r : Wv C X h v (.list zs)) : WList C X h v zs := by
  rcases r with r | ⟨ys, e, r⟩
  · exact r.wlist
  · cases e; exact r
section
variable {P : Par} {k : Nat} {sc : Scope} {n : Nm}
theorem EvF.nil {pos : Pos} : EvF P k sc n (.List [] pos) [] := ⟨fun R G h =>
  wpAny_List (wpAny_items_nil ⟨by simp [sizeLine_eq], h _ _ _ ⟨fun b o e => Heap.get?_push_of_some _ e, rfl, rfl, rfl⟩ size_none isList_push .nil⟩)⟩
theorem EvF.add {l r : Expr} {pos : Pos} {xs ys : List PV} (hl : EvW P k sc n l (.list xs)) (hr : EvW P k sc n r (.list ys)) (hz : small (xs.length + ys.length) = true) : EvF P k sc n (.BinOp l .Add r pos) (xs ++ ys) := ⟨fun R G h =>
  wpAny_BinOp (hl.go R G fun v s₁ g₁ r₁ => hr.go R (G.grow g₁.heap) fun u s₂ g₂ r₂ => by
    refine add_fresh ((G.grow g₁.heap).grow g₂.heap).std ((G.grow g₁.heap).grow g₂.heap).stand (r₁.grow g₂.heap).list r₂.list (small_le hz) fun a vs s₃ g₃ ha hp hr => h a vs s₃ ((g₁.trans g₂).trans g₃) (none_back g₁.heap (none_back g₂.heap ha)) hp hr)⟩
theorem EvW.mul {l r : Expr} {pos : Pos} {xs : List PV} {i : Int} (hl : EvW P k sc n l (.list xs)) (hr : Ev P k sc n r (.int i)) (h1 : small (xs.length * i.toNat) = true) (h2 : smallI i = true) (h3 : (ints? xs).isSome = true) : EvW P k sc n (.BinOp l .Mult r pos) (.list (List.replicate i.toNat xs).flatten) := ⟨fun R G h =>
  wpAny_BinOp (hl.go R G fun v s₁ g₁ r₁ => hr.go R (G.grow g₁.heap) fun u s₂ g₂ r₂ => by
    cases r₂ with
    | int _ t => exact mul_wlist ((G.grow g₁.heap).grow g₂.heap).std ((G.grow g₁.heap).grow g₂.heap).stand (r₁.grow g₂.heap).list h1 h2 h3 fun v s₃ g₃ r₃ => h v s₃ ((g₁.trans g₂).trans g₃) (.inr ⟨_, rfl, r₃⟩))⟩

theorem lookup_drop {ρ : Rho} {x y : Str} {d : PV} (h : (ρ.filter fun p => p.1 != x).lookup y = some d) : y ≠ x ∧ ρ.lookup y = some d := by
  obtain ⟨h1, h2⟩ := lookup_filter (p := fun z => z != x) h
  exact ⟨by simpa using h1, h2⟩

/-- x = a new list -/
theorem Ex1.assignOwn {x : Str} {p pos : Pos} {e : Expr} {xs : List PV} (he : EvF P k sc n e xs) (hx : storable (sc.names.lookup x) = true) (hs : ∀ env, swapsWith e (some (.Name x p)) pos.line env = pure false) :
    Ex1 P k sc n (.Assign [.Name x p] e pos) (.next (n.putOwn x xs)) := ⟨by
  intro A env W X₀ s E Q R G hW h
  refine wpAny_Assign_Name (he.go R G fun a vs s₁ g₁ ha hp hr => ?_) (hs _)
  have hX : ∀ b, s.heap.get? b = Option.none → ¬ U X₀ W b := fun b hb q => by obtain ⟨o, ho⟩ := G.stand b q; rw [hb] at ho; cases ho
  have hao : ∃ o, s₁.heap.get? a = some o := let ⟨_, ho⟩ := hp; ⟨_, ho⟩
  have hpa : ¬ Priv env a := fun q => hX a ha (.inr (G.priv a q))
  have hy : ∀ b o, ¬ U X₀ W b → s.heap.get? b = some o → ¬ U X₀ (fun b => W b ∨ b = a) b := fun b o hb e q => by
    rcases q with q | q | q
    · exact hb (.inl q)
    · exact hb (.inr q)
    · rw [q, ha] at e; cases e
  obtain ⟨m, F, h1, _, h3⟩ := G.names
  have hk : env.kindOf x = some .local ∨ env.kindOf x = some .cell := by
    rw [Env.kindOf, G.scope]
    cases e : sc.names.lookup x with
    | none => rw [e] at hx; cases hx
    | some q => rw [e] at hx; cases q <;> first | exact .inl rfl | exact .inr rfl | cases hx
  have F₁ : Frm env s₁.heap m := F.keep fun b o _ e => g₁.heap b o e
  refine name_store F₁ G.apart hk fun h' tk F' kp st => ?_
  have kW : KeepBut W s₁.heap h' := kp.mono G.priv
  have kX : KeepBut (U X₀ W) s₁.heap h' := kW.mono fun b q => .inr q
  refine h (fun b => W b ∨ b = a) _ ⟨fun b q => .inl q, fun b q => q.elim .inl fun z => .inr (by rw [z]; exact ha), ⟨G.scope, G.globals, G.bns, fun b o e => kW b o (fun q => by rw [G.wb b q] at e; cases e) (g₁.heap b o (G.base b o e)), fun b hb => ?_, fun b q => .inr q, fun b q => ?_, fun b q => .inl (G.priv b q), G.apart, _, F', fun y d hd => ?_, fun y ys e => ?_, fun y a' dx fs he => ?_⟩, fun b q z => ?_, ⟨fun b o hb e => kW b o hb (g₁.heap b o e), g₁.gens, g₁.drawn, g₁.os⟩⟩
  · rcases hb with q | q | q
    · obtain ⟨o, ho⟩ := G.stand b (.inl q); exact st b o (g₁.heap b o ho)
    · obtain ⟨o, ho⟩ := G.stand b (.inr q); exact st b o (g₁.heap b o ho)
    · obtain ⟨o, ho⟩ := hao; exact st b o (by rw [q]; exact ho)
  · rcases q with q | q
    · exact G.wb b q
    · rw [q]; exact none_back G.base ha
  · obtain ⟨e1, e2⟩ := lookup_drop hd
    obtain ⟨v, hv, r⟩ := h1 y d e2
    refine ⟨v, by rw [if_neg e1]; exact hv, (r.keep (fun b o _ e => g₁.heap b o e) hy).keep (kX.mono fun b q => ?_) fun b _ hb _ => hb⟩
    rcases q with q | q
    · exact .inl q
    · exact .inr (.inl q)
  · cases e
    exact ⟨a, vs, by rw [if_pos rfl], .inr rfl, hpa, hp.at fun o e => kp a o hpa e, hr.keep (kX.mono fun b q => .inl q) fun b o hb e q => by
      rcases q with q | q | q
      · exact hb (.inl (.inl q))
      · exact hb (.inl (.inr q))
      · exact hb (.inr q)⟩
  · unfold Nm.putOwn at he
    cases ho : n.me with
    | none => simp only [ho] at he; cases he
    | some p =>
      obtain ⟨z, zs⟩ := p
      simp only [ho] at he
      by_cases q : x = z
      · subst q; simp at he
      · simp only [beq_false_of_ne q, Bool.false_eq_true, if_false, Option.some.injEq, Prod.mk.injEq] at he
        obtain ⟨rfl, rfl⟩ := he
        have M := (h3 _ _ _ _ ho).keep id (fun _ q => q) (fun o e => g₁.heap _ o e) (fun o e => g₁.heap _ o e) (fun b o _ e => g₁.heap b o e) hy
        refine M.keep (fun e => by rw [if_neg fun w => q w.symm]; exact e) (fun _ q => .inl q) (fun o e => kp _ o M.pa e) (fun o e => kp _ o M.pd e) (kX.mono fun b q => ?_) fun b _ hb _ => hb
        rcases q with q | q
        · exact .inl q
        · exact .inr (.inl q)
  · rcases q with q | q
    · exact hW b q z
    · exact hX a ha (.inl (q ▸ z))⟩

/-- the block's own list is written -/
theorem own_write {env : Env} {W X : Addr → Prop} {h h' : Heap} {m : Str → Option Value} {x : Str} {a : Addr} {vs : Array Value} {xs : List PV} (G : Good P sc n env W X h) (F : Frm env h m) (h1 : ∀ y d, n.ρ.lookup y = some d → ∃ v, m y = some v ∧ Rep P.C X h v d)
    (h3 : ∀ y a dx fs, n.me = some (y, a, dx, fs) → MeAt P.C env W X h m y a dx fs) (hm : m x = some (.ref a)) (ha : W a) (hp : ¬ Priv env a) (ho : ∃ us, h.PlainList a us) (k : KeepBut (· = a) h h') (hl : h'.PlainList a vs) (hr : RepL P.C X h' vs.toList xs) : Good P sc ⟨n.ρ, some (x, xs), n.me⟩ env W X h' := by
  have kX : KeepBut X h h' := k.mono fun b q => by rw [q]; exact G.wx a ha
  refine ⟨G.scope, G.globals, G.bns, fun b o e => k b o (fun q => by rw [q, G.wb a ha] at e; cases e) (G.base b o e), fun b hb => ?_, G.wx, G.wb, G.priv, G.apart, m, F.keep fun b o hb e => k b o (fun q => hp (q ▸ hb)) e, fun y d hd => ?_, fun y ys e => ?_, fun y a' dx fs e => ?_⟩
  · by_cases q : b = a
    · obtain ⟨_, ho⟩ := hl; exact ⟨_, by rw [q]; exact ho⟩
    · obtain ⟨o, ho⟩ := G.stand b hb; exact ⟨o, k b o q ho⟩
  · obtain ⟨v, hv, r⟩ := h1 y d hd
    exact ⟨v, hv, r.keep kX fun b _ hb _ => hb⟩
  · cases e
    exact ⟨a, vs, hm, ha, hp, hl, hr⟩
  · have M := h3 y a' dx fs e
    obtain ⟨us, j, hj⟩ := ho
    have n1 : a' ≠ a := fun q => by
      obtain ⟨mi, hi, _⟩ := M.inst
      obtain ⟨o, h1, h2, _⟩ := hi.inst
      rw [q, hj] at h1
      cases h1
      cases h2
    have n2 : dx ≠ a := fun q => by
      obtain ⟨mi, hi, _⟩ := M.inst
      obtain ⟨o, es, ep, h1, h2, _⟩ := hi.ns
      rw [q, hj] at h1
      cases h1
      cases h2
    exact M.keep id (fun _ q => q) (fun o e => k _ o n1 e) (fun o e => k _ o n2 e) kX fun b _ hb _ => hb

/-- x.append(e) -/
theorem Ex1.append {x : Str} {p ap cp pos : Pos} {e : Expr} {d : PV} {xs : List PV} (hv : isVar (sc.names.lookup x) = true) (ho : n.own = some (x, xs)) (he : Ev P k sc n e d) (hz : small xs.length = true) (hd1 : (x == ("__debug__" : Str)) = false) (hd2 : (x == ("__classdict__" : Str)) = false)
    (hstar : ∀ env, starEach [e] env = (false, eval e env) :: starEach [] env) (hi : ∀ env : Env, env.scope = sc → interactive env = false) (hsw : ∀ env, swapsWith (.Call (.Attribute (.Name x p) "append" ap) [e] [] cp) Option.none pos.line env = pure false)
    (hm : ∀ env, ∃ pl, eval (.Call (.Attribute (.Name x p) "append" ap) [e] [] cp) env = (do let ov ← eval (.Name x p) env; standAt ap.atName; let (f, first) ← holding [ov] (getMethod ov "append" pl); callWith cp f first (backTo cp (starEach [e] env)) [])) :
    Ex1 P k sc n (.Expr (.Call (.Attribute (.Name x p) "append" ap) [e] [] cp) pos) (.next ⟨n.ρ, some (x, xs ++ [d]), n.me⟩) := ⟨by
  intro A env W X₀ s E Q R G hW h
  obtain ⟨m, F, h1, h2, h3⟩ := G.names
  obtain ⟨a, vs, hma, ha, hp, hl, hr⟩ := h2 x xs ho
  obtain ⟨pl, hm⟩ := hm env
  refine wpAny_Expr_any (MethodCall_ (pl := pl) ?_ hm) (hi env G.scope) (hsw env)
  refine name_load F (by rw [Env.kindOf, G.scope]; exact hv) hma hd1 hd2 ?_
  obtain ⟨j, hj⟩ := id hl
  refine getMethod_list_append hj rfl rfl (callWith_method1 ((Evs.cons he .nil hstar).go R G fun us s₁ g₁ rs => ?_) (hstar env))
  cases rs with
  | cons r₁ rn =>
  cases rn
  have G₁ := G.grow g₁.heap
  have hr₁ := hr.grow g₁.heap
  have hsz : vs.size ≤ sizeLine := by
    have := hr.length
    rw [Array.length_toList] at this
    rw [this, sizeLine_eq]
    have := small_le hz
    omega
  refine wpAny_list_append_plain (hl.at fun o e => g₁.heap a o e) (fun h₂ hl₂ hs₂ => ?_) hsz
  have k₂ : KeepBut (· = a) s₁.heap h₂ := fun b o hb e => (hs₂.2 b hb).trans e
  have kX : KeepBut (U X₀ W) s₁.heap h₂ := k₂.mono fun b q => by rw [q]; exact .inr ha
  refine h W { s₁ with heap := h₂ } (Then.same ?_ hW ⟨fun b o hb e => k₂ b o (fun q => hb (by rw [q]; exact ha)) (g₁.heap b o e), g₁.gens, g₁.drawn, g₁.os⟩)
  refine own_write G₁ (F.keep fun b o _ e => g₁.heap b o e) (fun y d hd => let ⟨v, hv, r⟩ := h1 y d hd; ⟨v, hv, r.grow g₁.heap⟩) (fun y a dx fs e => (h3 y a dx fs e).keep id (fun _ q => q) (fun o e => g₁.heap _ o e) (fun o e => g₁.heap _ o e) (fun b o _ e => g₁.heap b o e) fun b _ hb _ => hb) hma ha hp ⟨_, hl.at fun o e => g₁.heap a o e⟩ k₂ hl₂ ?_
  rw [Array.toList_push]
  exact (hr₁.keep kX fun b _ hb _ => hb).append (.cons (r₁.keep kX fun b _ hb _ => hb) .nil)⟩

theorem RepL.set {C : Addr} {X : Addr → Prop} {h : Heap} : ∀ {vs : List Value} {ds : List PV} {v : Value} {d : PV} (j : Nat), RepL C X h vs ds → Rep C X h v d → RepL C X h (vs.set j v) (ds.set j d)
  | _, _, _, _, _, .nil, r => .nil
  | _, _, _, _, 0, .cons a b, r => .cons r b
  | _, _, _, _, j + 1, .cons a b, r => .cons a (RepL.set j b r)

/-- x[i] = e -/
theorem Ex1.setItem {x : Str} {p sp pos : Pos} {e ie : Expr} {i : Int} {d : PV} {xs : List PV} (hv : isVar (sc.names.lookup x) = true) (ho : n.own = some (x, xs)) (he : Ev P k sc n e d) (hie : Ev P k sc n ie (.int i)) (h0 : 0 ≤ i) (hlt : i < xs.length) (hz : small xs.length = true)
    (hd1 : (x == ("__debug__" : Str)) = false) (hd2 : (x == ("__classdict__" : Str)) = false) (hsw : ∀ env, swapsWith e (some (.Subscript (.Name x p) ie sp)) pos.line env = pure false) :
    Ex1 P k sc n (.Assign [.Subscript (.Name x p) ie sp] e pos) (.next ⟨n.ρ, some (x, xs.set i.toNat d), n.me⟩) := ⟨by
  intro A env W X₀ s E Q R G hW h
  obtain ⟨m, F, h1, h2, h3⟩ := G.names
  obtain ⟨a, vs, hma, ha, hp, hl, hr⟩ := h2 x xs ho
  refine wpAny_Assign_Subscript (he.go R G fun v s₁ g₁ r₁ => ?_) (hsw env)
  have G₁ := G.grow g₁.heap
  have F₁ : Frm env s₁.heap m := F.keep fun b o _ e => g₁.heap b o e
  refine name_load F₁ (by rw [Env.kindOf, G.scope]; exact hv) hma hd1 hd2 (hie.go R G₁ fun u s₂ g₂ r₂ => ?_)
  have G₂ := G₁.grow g₂.heap
  have g := g₁.trans g₂
  have hlen : vs.size = xs.length := by have := hr.length; rwa [Array.length_toList] at this
  cases r₂ with
  | int _ t =>
  refine setItem_plain (hl.at fun o e => g.heap a o e) h0 (by have := small_le hz; omega) (by rw [hlen]; exact hlt) fun h₃ hl₃ hs₃ => ?_
  have k₃ : KeepBut (· = a) s₂.heap h₃ := fun b o hb e => (hs₃.2 b hb).trans e
  have kX : KeepBut (U X₀ W) s₂.heap h₃ := k₃.mono fun b q => by rw [q]; exact .inr ha
  refine h W { s₂ with heap := h₃ } (Then.same ?_ hW ⟨fun b o hb e => k₃ b o (fun q => hb (by rw [q]; exact ha)) (g.heap b o e), g.gens, g.drawn, g.os⟩)
  refine own_write G₂ (F₁.keep fun b o _ e => g₂.heap b o e) (fun y d hd => let ⟨v, hv, r⟩ := h1 y d hd; ⟨v, hv, r.grow g.heap⟩) (fun y a dx fs e => (h3 y a dx fs e).keep id (fun _ q => q) (fun o e => g.heap _ o e) (fun o e => g.heap _ o e) (fun b o _ e => g.heap b o e) fun b _ hb _ => hb) hma ha hp ⟨_, hl.at fun o e => g.heap a o e⟩ k₃ hl₃ ?_
  rw [Array.toList_setIfInBounds]
  exact ((hr.grow g.heap).keep kX fun b _ hb _ => hb).set _ ((r₁.grow g₂.heap).keep kX fun b _ hb _ => hb)⟩

/-- several names take a value, or a tuple's parts go to names -/
theorem Ex1.assignT {t : Expr} {pos : Pos} {e : Expr} {d : PV} {n₁ : Nm} (he : Ev P k sc n e d) (ha : asg sc t d n = some n₁) (hs : ∀ env, swapsWithSole [t] e pos.line env = pure false) (hw : ∀ env, swappedStores [t] e env = pure Option.none)
    (hea : ∀ env, (assignEach [t] env).map (·.2) = [PySem.assign t env]) : Ex1 P k sc n (.Assign [t] e pos) (.next n₁) := ⟨by
  intro A env W X₀ s E Q R G hW h
  refine wpAny_Assign_stores (he.go R G fun v s₁ g₁ r₁ => ?_) (hs env) (hw env)
  rw [hea env]
  exact asg_ok R.handled (G.grow g₁.heap) r₁ ha fun s₂ G₂ k₂ => h _ _ (Then.same G₂ hW (g₁.kept.trans k₂))⟩
theorem Ex1.assign3 {t₁ t₂ t₃ : Expr} {pos : Pos} {e : Expr} {d : PV} {n₁ n₂ n₃ : Nm} (he : Ev P k sc n e d) (ha₁ : asg sc t₁ d n = some n₁) (ha₂ : asg sc t₂ d n₁ = some n₂) (ha₃ : asg sc t₃ d n₂ = some n₃)
    (hw : ∀ env, swappedStores [t₁, t₂, t₃] e env = pure Option.none) (hea : ∀ env, (assignEach [t₁, t₂, t₃] env).map (·.2) = [PySem.assign t₁ env, PySem.assign t₂ env, PySem.assign t₃ env]) : Ex1 P k sc n (.Assign [t₁, t₂, t₃] e pos) (.next n₃) := ⟨by
  intro A env W X₀ s E Q R G hW h
  refine wpAny_Assign_three (he.go R G fun v s₁ g₁ r₁ => ?_) (hea env) (hw env)
  have kX : ∀ {s s' : Shared}, Kept W s s' → KeepBut (U X₀ W) s.heap s'.heap := fun k => k.heap.mono fun b q => .inr q
  exact asg_ok R.handled (G.grow g₁.heap) r₁ ha₁ fun s₂ G₂ k₂ => asg_ok R.handled G₂ (r₁.keep (kX k₂) fun b _ hb _ => hb) ha₂ fun s₃ G₃ k₃ => asg_ok R.handled G₃ (r₁.keep (kX (k₂.trans k₃)) fun b _ hb _ => hb) ha₃ fun s₄ G₄ k₄ =>
    h _ _ (Then.same G₄ hW (((g₁.kept.trans k₂).trans k₃).trans k₄))⟩
end
end Mine

end
noncomputable section
open PySem PySem.W PyProof.Rows PySem.Calls
set_option Elab.async false
set_option linter.unusedVariables false
namespace Mine

theorem RepF.snoc {C : Addr} {X : Addr → Prop} {h : Heap} {m : Str → Option Value} {x : Str} {v : Value} {d : PV} : ∀ {fs : List (Str × PV)}, RepF C X h m fs → fs.lookup x = none → Rep C X h v d → RepF C X h (fun y => if y = x then some v else m y) (fs ++ [(x, d)])
  | [], r, e, rd => .cons (if_pos rfl) rd .nil
  | (y, e') :: fs, r, e, rd => by
    cases r with
    | cons hv ra rb =>
      by_cases q : x = y
      · subst q; simp [List.lookup] at e
      · simp only [List.lookup, beq_false_of_ne q] at e
        exact .cons (by rw [if_neg fun z => q z.symm]; exact hv) ra (rb.snoc e rd)
theorem lookup_snoc {fs : List (Str × PV)} {x y : Str} {d : PV} (h : (fs ++ [(x, d)]).lookup y = none) : y ≠ x ∧ fs.lookup y = none := by
  induction fs with
  | nil =>
    by_cases q : y = x
    · subst q; simp [List.lookup] at h
    · exact ⟨q, rfl⟩
  | cons p r ih =>
    obtain ⟨z, e⟩ := p
    rw [List.cons_append] at h
    by_cases q : y = z
    · subst q; simp [List.lookup] at h
    · simp only [List.lookup, beq_false_of_ne q] at h ⊢
      exact ih h

section
variable {P : Par} {k : Nat} {sc : Scope} {n : Nm} {N : Addr} {mN : Str → Option Value}
/-- a field of the object that the block is making -/
theorem Ev.attrMe {x : Str} {p : Pos} {name : Str} {pos : Pos} {a dx : Addr} {fs : List (Str × PV)} {d : PV} (K : Kls P N mN) (hv : isVar (sc.names.lookup x) = true) (hme : n.me = some (x, a, dx, fs)) (hf : fs.lookup name = some d) (hna : mN name = Option.none) (hB : typeLookup (.type "object") name = pure Option.none)
    (hd1 : (x == ("__debug__" : Str)) = false) (hd2 : (x == ("__classdict__" : Str)) = false) (hm : ∀ env, attributeBase (.Name x p) name env (eval (.Name x p) env) = eval (.Name x p) env) : Ev P k sc n (.Attribute (.Name x p) name pos) d := ⟨by
  intro A env W X s E Q R G h
  obtain ⟨m, F, _, _, h3⟩ := G.names
  have M := h3 _ _ _ _ hme
  refine Attribute_any_ (name_load F (by rw [Env.kindOf, G.scope]; exact hv) M.val hd1 hd2 ?_) (by rw [arm_eval_Attribute, hm env])
  obtain ⟨mi, hi, hex, hr⟩ := M.inst
  obtain ⟨u, hu, ru⟩ := hr.get hf
  obtain ⟨nm, q, bs, sn, sub, col, dd, k0, k1, k2, k3, k5, hC⟩ := K.cls.obj
  have hb := G.base
  obtain ⟨hh, gg, dd', t, os⟩ := s
  exact load_attr (hb _ _ hC) (K.cls.ns.keeps hb) K.ga hna hB hi.is hu ru.handed (h _ _ (Grow.toks _ _) ru)⟩

/-- a field is laid -/
theorem Ex1.setMe {x : Str} {p ap pos : Pos} {name : Str} {e : Expr} {a dx : Addr} {fs : List (Str × PV)} {d : PV} (K : Kls P N mN) (hsa : mN "__setattr__" = Option.none) (hv : isVar (sc.names.lookup x) = true) (hme : n.me = some (x, a, dx, fs)) (hf : fs.lookup name = Option.none) (he : Ev P k sc n e d)
    (hna : mN name = Option.none) (hB : typeLookup (.type "object") name = pure Option.none) (hz : small fs.length = true) (hd1 : (x == ("__debug__" : Str)) = false) (hd2 : (x == ("__classdict__" : Str)) = false) (hs : ∀ env, swapsWith e (some (.Attribute (.Name x p) name ap)) pos.line env = pure false) :
    Ex1 P k sc n (.Assign [.Attribute (.Name x p) name ap] e pos) (.next ⟨n.ρ, n.own, some (x, a, dx, fs ++ [(name, d)])⟩) := ⟨by
  intro A env W X₀ s E Q R G hW h
  refine plainObj_wpAny_Assign_Attribute (he.go R G fun v s₁ g₁ r₁ => ?_) (hs env)
  have G₁ := G.grow g₁.heap
  obtain ⟨m, F, h1, h2, h3⟩ := G₁.names
  have M := h3 _ _ _ _ hme
  refine name_load F (by rw [Env.kindOf, G.scope]; exact hv) M.val hd1 hd2 ?_
  obtain ⟨mi, hi, hex, hr⟩ := M.inst
  obtain ⟨nm, q, bs, sn, sub, col, dd, k0, k1, k2, k3, k5, hC⟩ := K.cls.obj
  have hb := G₁.base
  have haC : a ≠ P.C := fun q => by rw [← q, G.wb a M.wa] at hC; cases hC
  obtain ⟨hh, gg, dd', t, os⟩ := s₁
  obtain ⟨o, ho1, ho2, ho3, ho4⟩ := hi.inst
  refine store_attr (ns := fs.map (·.1)) PySem.F.store_object (hb _ _ hC) (K.cls.ns.keeps hb) hsa hna hB haC hi.is (fun h' tk' I' hk hsame => ?_) ?_ ?_
  · have kk : ∀ b o, b ≠ a → b ≠ dx → hh.get? b = some o → h'.get? b = some o := fun b o' n1 n2 e => hk b o' n1 (fun o₀ d' e₀ ed => by
      have := Option.some.inj (ho1.symm.trans e₀)
      subst this
      have := Option.some.inj (ho4.symm.trans ed)
      subst this
      exact n2) e
    have hXa : U X₀ W a := .inr M.wa
    have hXd : U X₀ W dx := .inr M.wd
    have kX : KeepBut (U X₀ W) hh h' := fun b o hb e => kk b o (fun q => hb (q ▸ hXa)) (fun q => hb (q ▸ hXd)) e
    have hi' : InstIs h' P.C a dx (fun y => if y = name then some v else mi y) := by
      obtain ⟨o₁, e₁, c₁, dt₁, _, dk₁⟩ := hsame o ho1
      obtain ⟨o', e', _, _, hd'⟩ := I'
      have := Option.some.inj (e₁.symm.trans e')
      subst this
      refine ⟨⟨o₁, e₁, c₁.trans ho2, fun c => dt₁ ▸ ho3 c, dk₁ _ ho4⟩, hi.ne, ?_⟩
      rcases hd' with ⟨hn0, _⟩ | ⟨d', hd', _, hns'⟩
      · rw [dk₁ dx ho4] at hn0; cases hn0
      · have := Option.some.inj ((dk₁ dx ho4).symm.trans hd')
        subst this
        exact hns'
    have stA : ∃ o, h'.get? a = some o := let ⟨o, h, _⟩ := hi'.inst; ⟨o, h⟩
    have stD : ∃ o, h'.get? dx = some o := let ⟨o, _, _, h, _⟩ := hi'.ns; ⟨o, h⟩
    refine h W _ (Then.same ⟨G.scope, G.globals, G.bns, fun b o e => ?_, fun b hb => ?_, G.wx, G.wb, G.priv, G.apart, m, F.keep fun b o hb e => kk b o (fun q => M.pa (q ▸ hb)) (fun q => M.pd (q ▸ hb)) e, fun y d hd => ?_, fun y ys e => ?_, fun y a' dx' fs' e => ?_⟩ hW ?_)
    · exact kk b o (fun q => by rw [q, G.wb a M.wa] at e; cases e) (fun q => by rw [q, G.wb dx M.wd] at e; cases e) (G₁.base b o e)
    · by_cases q1 : b = a
      · rw [q1]; exact stA
      · by_cases q2 : b = dx
        · rw [q2]; exact stD
        · obtain ⟨o, ho⟩ := G₁.stand b hb; exact ⟨o, kk b o q1 q2 ho⟩
    · obtain ⟨u, hu, ru⟩ := h1 y d hd
      exact ⟨u, hu, ru.keep kX fun b _ hb _ => hb⟩
    · obtain ⟨b, vs, e1, e2, e3, e4, e5⟩ := h2 y ys e
      obtain ⟨j, hj⟩ := id e4
      have n1 : b ≠ a := fun q => by rw [q, ho1] at hj; cases hj; cases ho2
      have n2 : b ≠ dx := fun q => by
        obtain ⟨o, es, ep, g1, g2, _⟩ := hi.ns
        rw [q, g1] at hj; cases hj; cases g2
      exact ⟨b, vs, e1, e2, e3, e4.at fun o e => kk b o n1 n2 e, e5.keep kX fun b _ hb _ => hb⟩
    · cases e
      refine ⟨M.val, M.wa, M.wd, M.pa, M.pd, _, hi', fun y hy => ?_, (hr.keep kX fun b _ hb _ => hb).snoc hf (r₁.keep kX fun b _ hb _ => hb)⟩
      obtain ⟨z1, z2⟩ := lookup_snoc hy
      rw [if_neg z1]; exact hex y z2
    · exact ⟨fun b o hb e => kk b o (fun q => hb (q ▸ M.wa)) (fun q => hb (q ▸ M.wd)) (g₁.heap b o e), g₁.gens, g₁.drawn, g₁.os⟩
  · intro y hy
    cases e : fs.lookup y with
    | none => exact (hy (hex y e)).elim
    | some d' => exact List.mem_map.mpr ⟨_, mem_of_lookup e, rfl⟩
  · rw [List.length_map, sizeLine_eq]; have := small_le hz; omega⟩

/-- the state in which __init__ starts -/
theorem me_good {f : Addr} {fd : FuncData} {body : List Stmt} {x : Str} {names : List Str} {vs : List Value} {ds : List PV} {X : Addr → Prop} {s s₁ : Shared} {a dx : Addr} {h₀ : Heap} (F : FnAt P f fd body (x :: names)) (hb : ∀ b o, P.hB.get? b = some o → h₀.get? b = some o)
    (hk : ∀ b o, h₀.get? b = some o → s.heap.get? b = some o) (hX : Stand X h₀) (ha : h₀.get? a = none) (hd : h₀.get? dx = none) (hi : InstIs s.heap P.C a dx fun _ => none) (r : RepL P.C X h₀ vs ds)
    (x₁ : InCallC s (callEnvC fd s.heap.objs.size f).locals (bindL (callEnvC fd s.heap.objs.size f).kindOf ((x :: names).zip (.ref a :: vs)) fun _ => none) (callEnvC fd s.heap.objs.size f).cells
        (bindC (callEnvC fd s.heap.objs.size f).kindOf ((x :: names).zip (.ref a :: vs)) fun _ => none) s₁) :
    Good P fd.scope ⟨names.zip ds, none, some (x, a, dx, [])⟩ (callEnvC fd s.heap.objs.size f) (fun b => Priv (callEnvC fd s.heap.objs.size f) b ∨ b = a ∨ b = dx) (U X fun b => Priv (callEnvC fd s.heap.objs.size f) b ∨ b = a ∨ b = dx) s₁.heap ∧
      (∀ b, (Priv (callEnvC fd s.heap.objs.size f) b ∨ b = a ∨ b = dx) → h₀.get? b = none) := by
  have hnewS : ∀ b, Priv (callEnvC fd s.heap.objs.size f) b → s.heap.get? b = none := fun b hb => by
    have hle : s.heap.objs.size ≤ b := by
      rcases hb with q | ⟨y, q⟩
      · rw [q]; exact x₁.toInCall.fresh
      · exact Nat.le_of_lt (Nat.lt_of_le_of_lt x₁.toInCall.fresh (x₁.above y b (mem_of_lookup q)))
    cases e : s.heap.get? b with
    | none => rfl
    | some o => exact absurd (Heap.lt_size e) (Nat.not_lt.mpr hle)
  have hnew : ∀ b, (Priv (callEnvC fd s.heap.objs.size f) b ∨ b = a ∨ b = dx) → h₀.get? b = none := fun b q => by
    rcases q with q | q | q
    · exact none_back hk (hnewS b q)
    · rw [q]; exact ha
    · rw [q]; exact hd
  have keep := x₁.toInCall.keep
  have hy : ∀ b o, ¬ X b → h₀.get? b = some o → ¬ U X (fun b => Priv (callEnvC fd s.heap.objs.size f) b ∨ b = a ∨ b = dx) b := fun b o hb e q => q.elim hb fun z => by rw [hnew b z] at e; cases e
  have sa : ∃ o, s.heap.get? a = some o := let ⟨o, h, _⟩ := hi.inst; ⟨o, h⟩
  have sd : ∃ o, s.heap.get? dx = some o := let ⟨o, _, _, h, _⟩ := hi.ns; ⟨o, h⟩
  have hargs := F.args
  rw [List.all_cons, Bool.and_eq_true] at hargs
  refine ⟨⟨rfl, F.glob, F.bns, fun b o e => keep b o (hk b o (hb b o e)), fun b q => ?_, fun b q => .inr q, fun b q => none_back hb (hnew b q), fun b q => .inl q,
    ⟨fun y z c e1 e2 => name_of_addr x₁.apart (mem_of_lookup e1) (mem_of_lookup e2), fun y c e q => ?_⟩, ?_⟩, hnew⟩
  · rcases q with q | (q | ⟨y, q⟩) | q | q
    · obtain ⟨o, ho⟩ := hX b q; exact ⟨o, keep b o (hk b o ho)⟩
    · obtain ⟨o, _, _, ho, _⟩ := x₁.toInCall.ns; exact ⟨o, by rw [q]; exact ho⟩
    · obtain ⟨o, ho, _⟩ := x₁.cell y b q; exact ⟨o, ho⟩
    · obtain ⟨o, ho⟩ := sa; exact ⟨o, keep b o (by rw [q]; exact ho)⟩
    · obtain ⟨o, ho⟩ := sd; exact ⟨o, keep b o (by rw [q]; exact ho)⟩
  · have := x₁.above y c (mem_of_lookup e)
    exact absurd q (Nat.ne_of_gt this)
  · have at_name : ∀ y v, ((x :: names).zip (Value.ref a :: vs)).lookup y = some v →
        (if (callEnvC fd s.heap.objs.size f).kindOf y = some .local then bindL (callEnvC fd s.heap.objs.size f).kindOf ((x :: names).zip (.ref a :: vs)) (fun _ => none) y else bindC (callEnvC fd s.heap.objs.size f).kindOf ((x :: names).zip (.ref a :: vs)) (fun _ => none) y) = some v := fun y v hv => by
      have hmem : y ∈ x :: names := (List.of_mem_zip (mem_of_lookup hv)).1
      have := List.all_eq_true.mp F.args y hmem
      simp only [Bool.or_eq_true, beq_iff_eq] at this
      rcases this with q | q
      · have q' : (callEnvC fd s.heap.objs.size f).kindOf y = some .local := q
        rw [if_pos q']
        exact bindL_on F.nodup hv q'
      · have q' : (callEnvC fd s.heap.objs.size f).kindOf y = some .cell := q
        rw [if_neg (by rw [q']; decide)]
        exact bindC_on F.nodup hv q'
    refine ⟨fun y => if (callEnvC fd s.heap.objs.size f).kindOf y = some .local then bindL (callEnvC fd s.heap.objs.size f).kindOf ((x :: names).zip (.ref a :: vs)) (fun _ => none) y else bindC (callEnvC fd s.heap.objs.size f).kindOf ((x :: names).zip (.ref a :: vs)) (fun _ => none) y,
      ⟨F.kind, ⟨_, x₁.toInCall.ns, fun y hy => by rw [if_pos hy]⟩, fun y hy => ?_⟩, fun y d hd => ?_, (fun y xs e => nomatch e), fun y a' dx' fs e => ?_⟩
    · have hnl : ¬ (callEnvC fd s.heap.objs.size f).kindOf y = some .local := fun q => by rw [q] at hy; rcases hy with q | q <;> cases q
      rw [if_neg hnl]
      rcases hy with q | q
      · obtain ⟨c, hc⟩ := cellsFrom_has (a := s.heap.objs.size + 1) (acc := []) (mem_lookup q)
        exact ⟨c, hc, x₁.cell y c hc⟩
      · have := List.all_eq_true.mp F.nofree _ (mem_lookup q)
        simp at this
    · obtain ⟨v, hv, rv⟩ := zip_lookup r hd
      have hne : y ≠ x := fun q => by
        have hm : y ∈ names := (List.of_mem_zip (mem_of_lookup hv)).1
        exact (List.nodup_cons.mp F.nodup).1 (q ▸ hm)
      refine ⟨v, at_name y v ?_, rv.keep (fun b o _ e => keep b o (hk b o e)) hy⟩
      rw [List.zip_cons_cons]
      simp only [List.lookup, beq_false_of_ne hne]
      exact hv
    · cases e
      refine ⟨at_name x (.ref a) (by rw [List.zip_cons_cons]; simp [List.lookup]), .inr (.inl rfl), .inr (.inr rfl), fun q => ?_, fun q => ?_, _, hi.at (fun o e => keep a o e) (fun o e => keep dx o e), fun _ _ => rfl, .nil⟩
      · obtain ⟨o, ho⟩ := sa; rw [hnewS a q] at ho; cases ho
      · obtain ⟨o, ho⟩ := sd; rw [hnewS dx q] at ho; cases ho

/-- the class is called: a new object -/
theorem Cal.new {fI : Addr} {fd : FuncData} {body : List Stmt} {x : Str} {names : List Str} {ds : List PV} {fs : List (Str × PV)} (K : Kls P N mN) (hi : mN "__init__" = some (.ref fI)) (hfc : ∀ o, P.hB.get? fI = some o → o.cls = .type "function")
    (F : FnAt P fI fd body (x :: names)) (hlen : ds.length = names.length) (hx : ∀ a dx, ∃ ρ own, Ex P k fd.scope ⟨names.zip ds, none, some (x, a, dx, [])⟩ body (.next ⟨ρ, own, some (x, a, dx, fs)⟩)) : Cal P (k + 2) (.ref P.C) ds (.obj fs) := ⟨by
  intro A X s E Q vs RA hb hX r hq
  obtain ⟨o, ho, hd⟩ := F.obj
  have hvl : (Value.none :: vs).length = (x :: names).length := by simp [r.length, hlen]
  obtain ⟨nm, q, bs, sn, sub, col, dd, k0, k1, k2, k3, k5, hC⟩ := K.cls.obj
  obtain ⟨hh, gg, dd', t, os⟩ := s
  refine wpAny_call_obj_init PySem.F.objNew (hb _ _ hC) (K.cls.ns.keeps hb) hi (hb _ _ ho) (hfc o ho) fun h' a dx Mk => ?_
  have RA' : Room (k + 1) (A.under (.builtin "type.__call__" ⟨.ref P.C :: vs, []⟩)) := ⟨by have := RA.depth; show A.depth + 1 + (k + 1) < _; omega, by have := RA.units; have e : (Code.builtin "type.__call__" ⟨Value.ref P.C :: vs, []⟩).cUnits ≤ 3 := Nat.le_of_ble_eq_true rfl; show A.units + (Code.builtin "type.__call__" ⟨Value.ref P.C :: vs, []⟩).cUnits + 3 * (k + 1) + 60 < _; omega, RA.handled⟩
  have hInst : InstIs h' P.C a dx fun _ => Option.none := by
    obtain ⟨ox, hx1, hx2, hx3, hx4⟩ := Mk.inst
    have hdd := Mk.dict ox hx1
    rcases hx4 with ⟨hn0, _⟩ | ⟨d', hd', hne, hns⟩
    · rw [hn0] at hdd; cases hdd
    · have := Option.some.inj (hd'.symm.trans hdd)
      subst this
      exact ⟨⟨ox, hx1, hx2, hx3, hdd⟩, hne, hns⟩
  have hkind : ∀ y ∈ (x :: names).zip (Value.ref a :: vs), fd.scope.names.lookup y.1 = some .local ∨ (fd.scope.names.lookup y.1 = some .cell ∧ ((cellsFrom (h'.objs.size + 1) fd.scope.names []).lookup y.1).isSome = true) := fun y hy => by
    have := List.all_eq_true.mp F.args y.1 (List.of_mem_zip hy).1
    simp only [Bool.or_eq_true, beq_iff_eq] at this
    rcases this with q | q
    · exact .inl q
    · refine .inr ⟨q, ?_⟩
      obtain ⟨c, hc⟩ := cellsFrom_has (a := h'.objs.size + 1) (acc := []) (mem_lookup q)
      rw [hc]; rfl
  have hb' : ∀ b o, P.hB.get? b = some o → h'.get? b = some o := fun b o e => Mk.keeps b o (hb b o e)
  refine wpAny_call (codeAny_call_cells (s := ⟨h', gg, dd', t, os⟩) (by have := RA'.depth; omega) (hb' fI o ho) hd (P.lim.keeps hb') (F.code.keeps hb') F.body (F.bind (.ref a :: vs) hvl) F.clo hkind (fun s₁ x₁ => ?_) F.co F.gen F.kind)
  obtain ⟨G, hnew⟩ := me_good (s := ⟨h', gg, dd', t, os⟩) (h₀ := hh) F hb Mk.keeps hX Mk.newX Mk.newD hInst r x₁
  have gs : Grow ⟨h', gg, dd', t, os⟩ s₁ := by
    obtain ⟨h₁, tk, rfl⟩ := x₁.toInCall.same
    exact ⟨x₁.toInCall.keep, rfl, rfl, rfl⟩
  have hW : ∀ b, (Priv (callEnvC fd h'.objs.size fI) b ∨ b = a ∨ b = dx) → ¬ X b := fun b q z => by obtain ⟨o, ho⟩ := hX b z; rw [hnew b q] at ho; cases ho
  obtain ⟨ρ, own, hx⟩ := hx a dx
  refine hx.go (RA'.deeper _) G hW fun W' s' T => ⟨rfl, hq _ s' ?_ ?_⟩
  · exact ⟨fun b o e => T.kept.heap b o (fun q => by rw [hnew b q] at e; cases e) (gs.heap b o (Mk.keeps b o e)), T.kept.gens.trans gs.gens, T.kept.drawn.trans gs.drawn, T.kept.os.trans gs.os⟩
  · obtain ⟨m, _, _, _, h3⟩ := T.good.names
    have M := h3 _ _ _ _ rfl
    obtain ⟨mi, hi', hex, hr⟩ := M.inst
    exact .obj (T.off a M.wa) (T.off dx M.wd) hi' hex (hr.keep (fun b o _ e => e) fun b _ hb _ q => hb (.inl q))⟩
end
end Mine

end
noncomputable section
open PySem PySem.W PyProof.Rows PySem.Calls
set_option Elab.async false
set_option linter.unusedVariables false
namespace Mine

theorem inList {l : List Int} {j : Nat} (h : j < l.length) : l.getD j 0 ∈ l := by
  rw [List.getD_eq_getElem?_getD, List.getElem?_eq_getElem h]
  exact List.getElem_mem h
theorem atList {l : List Int} {a : Int} (h : a ∈ l) : ∃ j, j < l.length ∧ l.getD j 0 = a := by
  obtain ⟨j, hj, e⟩ := List.mem_iff_getElem.mp h
  exact ⟨j, hj, by rw [List.getD_eq_getElem?_getD, List.getElem?_eq_getElem hj]; exact e⟩
section
variable {P : Par} {k : Nat}
theorem Cal.le {j : Nat} {f : Value} {ds : List PV} {d : PV} (x : Cal P k f ds d) (h : k ≤ j) : Cal P j f ds d := ⟨fun R => x.go (R.le h)⟩
theorem Cal.ord {c : Nat} : Cal P k (.builtin "ord") [.str ⟨#[c]⟩] (.int c) := ⟨fun R hb hX r h => by
  cases r with | cons a b =>
  cases b; cases a
  exact PySem.P.ord_of_char (h _ _ (Grow.toks _ _) (.int _ _))⟩
theorem Cal.chr {i : Int} (h0 : 0 ≤ i) (h1 : i ≤ 1114111) : Cal P k (.builtin "chr") [.int i] (.str ⟨#[i.toNat]⟩) := ⟨fun R hb hX r h => by
  cases r with | cons a b =>
  cases b; cases a
  exact chr_of_range h0 h1 (h _ _ (Grow.toks _ _) (.str _ _))⟩
theorem Cal.lenL {xs : List PV} (hz : small xs.length = true) : Cal P k (.builtin "len") [.list xs] (.int xs.length) := ⟨fun R hb hX r h => by
  cases r with | cons a b =>
  cases b
  cases a with | list hn hl hr =>
  have := hr.length
  rw [Array.length_toList] at this
  exact kun_lenL hl.isList (by rw [this]) (by have := small_le hz; omega) (h _ _ (Grow.toks _ _) (.int _ _))⟩
theorem Cal.lenT {xs : List PV} (hz : small xs.length = true) : Cal P k (.builtin "len") [.tup xs] (.int xs.length) := ⟨fun R hb hX r h => by
  cases r with | cons a b =>
  cases b
  cases a with | tup hn hl hr =>
  have := hr.length
  rw [Array.length_toList] at this
  exact kun_lenT hl (by rw [this]) (by have := small_le hz; omega) (h _ _ (Grow.toks _ _) (.int _ _))⟩
theorem Cal.lenS {x : Str} (hz : small x.length = true) : Cal P k (.builtin "len") [.str x] (.int x.length) := ⟨fun R hb hX r h => by
  cases r with | cons a b =>
  cases b; cases a
  exact PySem.P.len_str (by have := small_le hz; omega) (h _ _ (Grow.toks _ _) (.int _ _))⟩
theorem Cal.max2 {a b : Int} : Cal P k (.builtin "max") [.int a, .int b] (.int (max a b)) := ⟨fun R hb hX r h => by
  cases r with | cons r1 r2 =>
  cases r1
  cases r2 with | cons r1 r2 =>
  cases r1; cases r2
  refine max_two_ints R.handled fun h' tk hk => ?_
  by_cases q : b > a
  · rw [Int.max_eq_right (Int.le_of_lt q)] at h; rw [if_pos q]; exact h _ _ (Grow.mk' hk) (.int _ _)
  · rw [Int.max_eq_left (Int.not_lt.mp q)] at h; rw [if_neg q]; exact h _ _ (Grow.mk' hk) (.int _ _)⟩
theorem Cal.maxL {ns : List Int} {M : Int} (h1 : M ∈ ns) (h2 : ∀ a ∈ ns, a ≤ M) : Cal P k (.builtin "max") [.list (ns.map PV.int)] (.int M) := ⟨fun {A X s E Q vs} R hb hX r h => by
  cases r with | cons a b =>
  cases b
  cases a with | list hn hl hr =>
  rename_i ad vs
  have hl' : s.heap.IsList ad vs.toList.toArray := by simpa using hl.isList
  have hi := hr.ints
  obtain ⟨xs, e⟩ := hi.allInts.items
  have hns : ns = xs.toList.map (·.1) := by rw [← hi.numsOf, ← nums_intItems, ← e]
  have hsz : 0 < xs.size := by
    cases q : xs.size with
    | zero => have : xs = #[] := Array.eq_empty_of_size_eq_zero q; rw [hns, this] at h1; simp at h1
    | succ _ => omega
  rw [e] at hl'
  refine max_intList R.handled hl' hsz fun v h' tk hv hk => ?_
  obtain ⟨t, rfl⟩ := intItems_at hv
  obtain ⟨g1, g2⟩ := argBest_gt (numAt xs) (xs.size - 1)
  have hmem : numAt xs (argBest (fun i j => decide (numAt xs i > numAt xs j)) (xs.size - 1)) ∈ ns := by rw [hns, numAt_eq]; exact inList (by rw [List.length_map, Array.length_toList]; omega)
  have hall : ∀ a ∈ ns, a ≤ numAt xs (argBest (fun i j => decide (numAt xs i > numAt xs j)) (xs.size - 1)) := fun a ha => by
    rw [hns] at ha
    obtain ⟨j, hj, rfl⟩ := atList ha
    rw [List.length_map, Array.length_toList] at hj
    rw [← numAt_eq]; exact g2 j (by omega)
  have eM : numAt xs (argBest (fun i j => decide (numAt xs i > numAt xs j)) (xs.size - 1)) = M := Int.le_antisymm (h2 _ hmem) (hall _ h1)
  rw [eM]
  exact h _ _ (Grow.mk' hk) (.int _ _)⟩
theorem Cal.join {x : Str} {ys : List Str} (hok : (ys.map (·.length)).sum + ys.length * x.length ≤ 16777216) : Cal P k (.builtin "str.join") [.str x, .list (ys.map PV.str)] (.str (Txt.join x ys)) := ⟨fun R hb hX r h => by
  cases r with | cons r1 r2 =>
  cases r1
  cases r2 with | cons r1 r2 =>
  cases r2
  cases r1 with | list hn hl hr =>
  exact join_list hl.isList hr.strs hok fun t k => h _ _ (Grow.toks _ _) (.str _ _)⟩
theorem Cal.count {ns : List Int} {i : Int} : Cal P k (.builtin "list.count") [.list (ns.map PV.int), .int i] (.int (ns.count i : Nat)) := ⟨fun {A X s E Q vs} R hb hX r h => by
  cases r with | cons r1 r2 =>
  cases r1 with | list hn hl hr =>
  rename_i ad vs
  cases r2 with | cons r1 r2 =>
  cases r2; cases r1
  have hl' : s.heap.IsList ad vs.toList.toArray := by simpa using hl.isList
  exact count_list_ints hl' hr.ints (h _ _ (Grow.toks _ _) (.int _ _))⟩
theorem Cal.lower {x : Str} (hfit : Builtin.Str.tooLong (Txt.lower x).length = false) : Cal P k (.builtin "str.lower") [.str x] (.str (Txt.lower x)) := ⟨fun R hb hX r h => by
  cases r with | cons r1 r2 =>
  cases r1; cases r2
  exact SC.lower hfit (h _ _ (Grow.toks _ _) (.str _ _))⟩
end

section
variable {P : Par} {k : Nat} {sc : Scope} {n : Nm} {N : Addr} {mN : Str → Option Value}
/-- tuple(x) of a list, the block's own too -/
theorem Ev.tupleOf {x : Str} {p pos : Pos} {e : Expr} {xs : List PV} (hx : sc.names.lookup x = some .globalImplicit) (hv : Glb P x (.type "tuple")) (hd : (x == ("__debug__" : Str)) = false) (ha : EvW P k sc n e (.list xs)) (hz : small xs.length = true)
    (he : ∀ env, starEach [e] env = (false, eval e env) :: starEach [] env) : Ev P k sc n (.Call (.Name x p) [e] [] pos) (.tup xs) := ⟨by
  intro A env W X s E Q R G h
  refine Call_Name rfl (glb G hx hv hd (callWith_type1 ?_ (he _) rfl))
  refine wpAny_items_cons (ha.go R G fun v s₁ g₁ r₁ => wpAny_items_nil ?_) (he _)
  obtain ⟨a, vs, rfl, hl, hr⟩ := r₁.list
  have hlen := hr.length
  rw [Array.length_toList] at hlen
  have G₁ := G.grow g₁.heap
  refine call_tuple_list hl (fun h' hk => ?_) (by rw [hlen, sizeLine_eq]; have := small_le hz; omega)
  have hk' : ∀ b o, s₁.heap.get? b = some o → (h'.push { cls := .type "tuple", data := .seq vs }).get? b = some o := fun b o e => Heap.get?_push_of_some _ (hk b o e)
  refine h _ _ (g₁.trans ⟨hk', rfl, rfl, rfl⟩) (.tup ?_ ⟨_, Heap.get?_push_size _ rfl, rfl, _, rfl⟩ (hr.grow hk'))
  exact (G₁.grow hk).stand.size⟩
/-- len of a list, the block's own too -/
theorem Ev.lenW {x : Str} {p pos : Pos} {e : Expr} {xs : List PV} (hx : sc.names.lookup x = some .globalImplicit) (hv : Glb P x (.builtin "len")) (hd : (x == ("__debug__" : Str)) = false) (ha : EvW P k sc n e (.list xs)) (hz : small xs.length = true)
    (he : ∀ env, starEach [e] env = (false, eval e env) :: starEach [] env) : Ev P k sc n (.Call (.Name x p) [e] [] pos) (.int xs.length) := ⟨by
  intro A env W X s E Q R G h
  refine Call_Name rfl (glb G hx hv hd (callWith_builtin1 ?_ (he _) rfl))
  refine wpAny_items_cons (ha.go R G fun v s₁ g₁ r₁ => wpAny_items_nil ?_) (he _)
  obtain ⟨a, vs, rfl, hl, hr⟩ := r₁.list
  have hlen := hr.length
  rw [Array.length_toList] at hlen
  exact kun_lenL hl (by rw [hlen]) (by have := small_le hz; omega) (h _ _ (g₁.trans (Grow.toks _ _)) (.int _ _))⟩
/-- isinstance(b, bool) -/
theorem Ev.isBool {x y : Str} {p p' pos : Pos} {e : Expr} {b : Bool} (hx : sc.names.lookup x = some .globalImplicit) (hv : Glb P x (.builtin "isinstance")) (hd : (x == ("__debug__" : Str)) = false) (hy : sc.names.lookup y = some .globalImplicit) (hvy : Glb P y (.type "bool")) (hdy : (y == ("__debug__" : Str)) = false) (ha : Ev P k sc n e (.bool b))
    (he : ∀ env, starEach [e, .Name y p'] env = (false, eval e env) :: starEach [.Name y p'] env) (he' : ∀ env, starEach [.Name y p'] env = (false, eval (.Name y p') env) :: starEach [] env) (hp : ∀ pos env, (backTo pos (starEach [.Name y p'] env)).any (·.1) = false) :
    Ev P k sc n (.Call (.Name x p) [e, .Name y p'] [] pos) (.bool true) := ⟨by
  intro A env W X s E Q R G h
  refine Call_Name rfl (glb G hx hv hd (callWith_builtin1 ?_ (he _) (hp _ _)))
  refine wpAny_items_cons (ha.go R G fun v s₁ g₁ r₁ => wpAny_items_cons (glb (G.grow g₁.heap) hy hvy hdy (wpAny_items_nil ?_)) (he' _)) (he _)
  cases r₁
  exact IsiPair.bool_bool (h _ _ g₁ (.bool _))⟩
/-- the class is called by its name -/
theorem Ev.callC {x : Str} {p pos : Pos} {e : Expr} {rest : List Expr} {ds : List PV} {d : PV} (K : Kls P N mN) (hx : sc.names.lookup x = some .globalImplicit) (hv : Glb P x (.ref P.C)) (hd : (x == ("__debug__" : Str)) = false) (ha : Evs P k sc n (e :: rest) ds) (hc : Cal P k (.ref P.C) ds d)
    (he : ∀ env, starEach (e :: rest) env = (false, eval e env) :: starEach rest env) (hp : ∀ pos env, (backTo pos (starEach rest env)).any (·.1) = false) : Ev P k sc n (.Call (.Name x p) (e :: rest) [] pos) d := ⟨fun R G h =>
  Call_Name rfl (glb G hx hv hd (callWith_cls K.cls (ha.go R G fun vs s₁ g₁ r₁ => ⟨(G.grow g₁.heap).base, hc.go R (G.grow g₁.heap).base (G.grow g₁.heap).stand r₁ fun v s₂ g₂ r₂ => h v s₂ (g₁.trans g₂) r₂⟩) (he _) (hp _ _)))⟩
/-- a text that the class holds -/
theorem Ev.cattr {x : Str} {p pos : Pos} {name v : Str} {t : Tok} {F : Frag} (hF : F.In P.hB) (hr : readsIn F P.C (.type "type") = true) (hf : findCls F (.ref P.C) (.type "type") name = some (.val (.str v t))) (hx : sc.names.lookup x = some .globalImplicit) (hv : Glb P x (.ref P.C)) (hd : (x == ("__debug__" : Str)) = false)
    (hm : ∀ env, attributeBase (.Name x p) name env (eval (.Name x p) env) = eval (.Name x p) env) : Ev P k sc n (.Attribute (.Name x p) name pos) (.str v) := ⟨by
  intro A env W X s E Q R G h
  refine Attribute_any_ (glb G hx hv hd ?_) (by rw [arm_eval_Attribute, hm env])
  exact cls_value (hF.keeps G.base) hr hf rfl (h _ _ (Grow.toks _ _) (.str _ _))⟩
/-- two names take the two parts of a tuple display: the second first -/
theorem Ex1.swap2 {x y : Str} {p p' tp pos vp : Pos} {j jj : Nat} {e₁ e₂ : Expr} {d₁ d₂ : PV} (he : Ev P k sc n (.Tuple [e₁, e₂] jj vp) (.tup [d₁, d₂])) (hx : storable (sc.names.lookup x) = true) (hy : storable (sc.names.lookup y) = true)
    (hs : ∀ env, swapsWithSole [.Tuple [.Name x p, .Name y p'] j tp] (.Tuple [e₁, e₂] jj vp) pos.line env = pure false) (hw : ∀ env : Env, env.scope = sc → swappedStores [.Tuple [.Name x p, .Name y p'] j tp] (.Tuple [e₁, e₂] jj vp) env = pure (some [x, y])) :
    Ex1 P k sc n (.Assign [.Tuple [.Name x p, .Name y p'] j tp] (.Tuple [e₁, e₂] jj vp) pos) (.next ((n.put y d₂).put x d₁)) := ⟨by
  intro A env W X₀ s E Q R G hW h
  rw [exec_Assign_arm]
  refine wpAny_bind (wpAny_standAt ?_)
  rw [hs env]
  refine wpAny_bind (wpAny_pure ?_)
  rw [if_neg (by decide)]
  refine wpAny_bind (he.go R G fun v s₁ g₁ r₁ => ?_)
  rw [hw env G.scope]
  refine wpAny_bind (wpAny_pure ?_)
  cases r₁ with
  | tup hn ht hr =>
  rename_i a vs
  have hlen := hr.length
  rw [Array.length_toList] at hlen
  refine wpAny_bind (wpAny_rule (wpAny_bind ?_))
  have e2 : [x, y].length = vs.size := by rw [hlen]; rfl
  rw [e2]
  refine wpAny_unpackItems_tuple R.handled ht fun h' hext => ?_
  have hk : ∀ b o, s₁.heap.get? b = some o → h'.get? b = some o := fun b o e => hext b o (Nat.ne_of_lt (Heap.lt_size e)) e
  have G₁ := (G.grow g₁.heap).grow hk
  have hr₁ := hr.grow hk
  generalize vs.toList = us at hr₁
  cases hr₁ with
  | cons ra rb =>
  cases rb with
  | cons rb rn =>
  cases rn
  rename_i v₁ v₂
  show wpAny _ A (do assignInOrder [fun v => bindName env y v, fun v => bindName env x v] [v₂, v₁]; pure Flow.next) _ _ _
  refine wpAny_bind (wpAny_assignInOrder_more (wpAny_bindName (store_ok (s := { s₁ with heap := h' }) G₁ hy rb fun h₂ tk G₂ k₂ => wpAny_assignInOrder_more (wpAny_bindName (store_ok (s := { s₁ with heap := h₂, toks := tk }) G₂ hx (ra.keep (k₂.mono G₁.wx) fun b _ hb _ => hb) fun h₃ tk' G₃ k₃ => wpAny_assignInOrder_none (wpAny_pure ?_))))))
  exact h _ _ (Then.same G₃ hW ⟨fun b o hb e => k₃ b o hb (k₂ b o hb (hk b o (g₁.heap b o e))), g₁.gens, g₁.drawn, g₁.os⟩)⟩
end
end Mine

end
noncomputable section
open PySem PySem.W PyProof.Rows PySem.Calls
set_option Elab.async false
set_option linter.unusedVariables false
namespace Mine

theorem small_of {n : Nat} (h : n ≤ 4096) : small n = true := Nat.ble_eq_true_of_le h
theorem smallI_of {i : Int} (h : i.natAbs ≤ 4294967296) : smallI i = true := Nat.ble_eq_true_of_le h

section
variable {P : Par} {k : Nat} {sc : Scope} {n : Nm}
theorem Ev.addI {l r : Expr} {pos : Pos} {a b : Int} (hl : Ev P k sc n l (.int a)) (hr : Ev P k sc n r (.int b)) : Ev P k sc n (.BinOp l .Add r pos) (.int (a + b)) := .bin hl hr rfl
theorem Ev.subI {l r : Expr} {pos : Pos} {a b : Int} (hl : Ev P k sc n l (.int a)) (hr : Ev P k sc n r (.int b)) : Ev P k sc n (.BinOp l .Sub r pos) (.int (a - b)) := .bin hl hr rfl
theorem Ev.mulI {l r : Expr} {pos : Pos} {a b : Int} (hl : Ev P k sc n l (.int a)) (hr : Ev P k sc n r (.int b)) (ha : a.natAbs ≤ 4294967296) : Ev P k sc n (.BinOp l .Mult r pos) (.int (a * b)) := .bin hl hr (by show (if _ then _ else _) = _; rw [if_pos (smallI_of ha)])
theorem Ev.divI {l r : Expr} {pos : Pos} {a b : Int} (hl : Ev P k sc n l (.int a)) (hr : Ev P k sc n r (.int b)) (h0 : b ≠ 0) (hb : b.natAbs ≤ 4294967296) : Ev P k sc n (.BinOp l .FloorDiv r pos) (.int (a.fdiv b)) := .bin hl hr (by show (if _ then _ else _) = _; rw [if_pos (by simp [h0, smallI_of hb])])
theorem Ev.modI {l r : Expr} {pos : Pos} {a b : Int} (hl : Ev P k sc n l (.int a)) (hr : Ev P k sc n r (.int b)) (h0 : b ≠ 0) : Ev P k sc n (.BinOp l .Mod r pos) (.int (a.fmod b)) := .bin hl hr (by show (if _ then _ else _) = _; rw [if_pos (by simp [h0])])
theorem Ev.addS {l r : Expr} {pos : Pos} {a b : Str} (hl : Ev P k sc n l (.str a)) (hr : Ev P k sc n r (.str b)) (h : a.length + b.length ≤ 4096) : Ev P k sc n (.BinOp l .Add r pos) (.str (a ++ b)) := .bin hl hr (by show (if _ then _ else _) = _; rw [if_pos (small_of h)])
theorem Ev.mulS {l r : Expr} {pos : Pos} {a : Str} {i : Int} (hl : Ev P k sc n l (.str a)) (hr : Ev P k sc n r (.int i)) (h1 : a.length ≤ 4096) (h2 : i.natAbs ≤ 4294967296) (h : a.length * i.toNat ≤ 4096) : Ev P k sc n (.BinOp l .Mult r pos) (.str (Txt.mul a i)) :=
  .bin hl hr (by show (if _ then _ else _) = _; rw [if_pos (by simp [small_of h1, smallI_of h2, small_of h])])
theorem Ev.addL {l r : Expr} {pos : Pos} {a b : List PV} (hl : Ev P k sc n l (.list a)) (hr : Ev P k sc n r (.list b)) (h : a.length + b.length ≤ 4096) : Ev P k sc n (.BinOp l .Add r pos) (.list (a ++ b)) := .bin hl hr (by show (if _ then _ else _) = _; rw [if_pos (small_of h)])
theorem seqIndex_nat {i : Int} {j n : Nat} (h : i = j) (hj : j < n) : seqIndex? i n = some j := by
  subst h
  unfold seqIndex?
  have h1 : ¬ ((j : Int) < 0) := by omega
  simp only [if_neg h1]
  rw [if_pos (by simp; omega)]
  simp
theorem seqIndex_last {n : Nat} (h : 0 < n) : seqIndex? (-1) n = some (n - 1) := by
  unfold seqIndex?
  simp only [show (-1 : Int) < 0 from by decide, if_true]
  rw [if_pos (by simp; omega)]
  congr 1; omega
theorem getElem_lt {α : Type} {xs : List α} {j : Nat} {d : α} (h : xs[j]? = some d) : j < xs.length := by
  by_cases q : j < xs.length
  · exact q
  · rw [List.getElem?_eq_none (by omega)] at h; cases h
theorem Ev.at {v i : Expr} {pos : Pos} {xs : List PV} {j : Int} {d : PV} (hv : EvW P k sc n v (.list xs)) (hi : Ev P k sc n i (.int j)) (h0 : 0 ≤ j) (hs : j ≤ 4294967296) (hd : xs[j.toNat]? = some d) : Ev P k sc n (.Subscript v i pos) d := .item hv hi (by
  have e : seqIndex? j xs.length = some j.toNat := seqIndex_nat (by omega) (getElem_lt hd)
  simp only [itemPV]
  rw [if_pos (smallI_of (by omega)), e]; exact hd)
theorem Ev.atT {v i : Expr} {pos : Pos} {xs : List PV} {j : Int} {d : PV} (hv : Ev P k sc n v (.tup xs)) (hi : Ev P k sc n i (.int j)) (h0 : 0 ≤ j) (hs : j ≤ 4294967296) (hd : xs[j.toNat]? = some d) : Ev P k sc n (.Subscript v i pos) d := .item hv.w hi (by
  have e : seqIndex? j xs.length = some j.toNat := seqIndex_nat (by omega) (getElem_lt hd)
  simp only [itemPV]
  rw [if_pos (smallI_of (by omega)), e]; exact hd)
theorem Tv.lt {l r : Expr} {pos : Pos} {a b : Int} {t : Bool} (hl : Ev P k sc n l (.int a)) (hr : Ev P k sc n r (.int b)) (h : decide (a < b) = t) (hm : behindInMarks .Lt r = false) : Tv P k sc n (.Compare l [.Lt] [r] pos) t := .cmp hl hr (by rw [← h]; rfl) hm
theorem Tv.ge {l r : Expr} {pos : Pos} {a b : Int} {t : Bool} (hl : Ev P k sc n l (.int a)) (hr : Ev P k sc n r (.int b)) (h : decide (b ≤ a) = t) (hm : behindInMarks .GtE r = false) : Tv P k sc n (.Compare l [.GtE] [r] pos) t := .cmp hl hr (by rw [← h]; rfl) hm
end
end Mine

end
noncomputable section
open PySem PySem.W PyProof.Rows PySem.Calls
set_option Elab.async false
set_option linter.unusedVariables false
namespace Mine

theorem Ex.le {P : Par} {k j : Nat} {sc : Scope} {n : Nm} {body : List Stmt} {o : Out} (x : Ex P k sc n body o) (h : k ≤ j) : Ex P j sc n body o := ⟨fun R => x.go (R.le h)⟩
section
variable {P : Par} {k : Nat} {sc : Scope} {t elt : Expr} {body : List Stmt} {ifs : List Expr}
theorem Lp.fold {σ : Type} {N : σ → PV → Nm} {f : σ → PV → σ} {I : σ → List PV → Prop} (hasg : ∀ s e d ds, I s (d :: ds) → asg sc t d (N s e) = some (N s d)) (hbody : ∀ s d ds, I s (d :: ds) → Ex P k sc (N s d) body (.next (N (f s d) d)) ∧ I (f s d) ds) :
    ∀ (ds : List PV) (s : σ) (e : PV), I s ds → ∃ e', Lp P k sc t body (N s e) ds (.next (N (ds.foldl f s) e'))
  | [], s, e, h => ⟨e, .nil⟩
  | d :: ds, s, e, h => by
    obtain ⟨h1, h2⟩ := hbody s d ds h
    obtain ⟨e', h3⟩ := Lp.fold hasg hbody ds (f s d) d h2
    exact ⟨e', .cons (hasg s e d ds h) h1 h3⟩
theorem Lp.from {σ : Type} {N : σ → PV → Nm} {f : σ → PV → σ} {I : σ → List PV → Prop} {n₀ : Nm} {s₀ : σ} {ds : List PV} (h0 : ∀ d es, I s₀ (d :: es) → asg sc t d n₀ = some (N s₀ d)) (hasg : ∀ s e d ds, I s (d :: ds) → asg sc t d (N s e) = some (N s d))
    (hbody : ∀ s d ds, I s (d :: ds) → Ex P k sc (N s d) body (.next (N (f s d) d)) ∧ I (f s d) ds) (hI : I s₀ ds) : ∃ n', Lp P k sc t body n₀ ds (.next n') ∧ ((ds = [] ∧ n' = n₀) ∨ ∃ e, n' = N (ds.foldl f s₀) e) := by
  cases ds with
  | nil => exact ⟨n₀, .nil, .inl ⟨rfl, rfl⟩⟩
  | cons d ds =>
    obtain ⟨h1, h2⟩ := hbody s₀ d ds hI
    obtain ⟨e', h3⟩ := Lp.fold hasg hbody ds (f s₀ d) d h2
    exact ⟨_, .cons (h0 d ds hI) h1 h3, .inr ⟨e', rfl⟩⟩

/-- items that are tuples: the rule over what the items come from -/
theorem Cp1.goT {α : Type} {g : α → PV} {N : α → Nm} {f : α → Option PV} (hasg : ∀ e d, asg sc t (g d) (N e) = some (N d)) :
    ∀ (ds : List α) (e : α), (∀ d ∈ ds, (f d = none → Tvs P k sc (N d) ifs false) ∧ (∀ y, f d = some y → Tvs P k sc (N d) ifs true ∧ Ev P k sc (N d) elt y)) → ∃ n', Cp1 P k sc elt t ifs (N e) (ds.map g) (ds.filterMap f) n'
  | [], e, h => ⟨_, .nil⟩
  | d :: ds, e, h => by
    obtain ⟨n', h3⟩ := Cp1.goT hasg ds d fun d hd => h d (.tail _ hd)
    obtain ⟨h1, h2⟩ := h d (.head _)
    cases q : f d with
    | none =>
      rw [List.filterMap_cons_none q]
      exact ⟨n', .skip (hasg e d) (h1 q) h3⟩
    | some y =>
      rw [List.filterMap_cons_some q]
      obtain ⟨a, b⟩ := h2 y q
      exact ⟨n', .take (zs := [y]) (hasg e d) a ⟨y, rfl, rfl, b⟩ h3⟩
theorem Cp1.filterMapT {α : Type} {n₀ : Nm} (g : α → PV) (N : α → Nm) (f : α → Option PV) {ds : List α} (h0 : ∀ d, asg sc t (g d) n₀ = some (N d)) (hasg : ∀ e d, asg sc t (g d) (N e) = some (N d))
    (h : ∀ d ∈ ds, (f d = none → Tvs P k sc (N d) ifs false) ∧ (∀ y, f d = some y → Tvs P k sc (N d) ifs true ∧ Ev P k sc (N d) elt y)) : ∃ n', Cp1 P k sc elt t ifs n₀ (ds.map g) (ds.filterMap f) n' := by
  cases ds with
  | nil => exact ⟨_, .nil⟩
  | cons d ds =>
    obtain ⟨n', h3⟩ := Cp1.goT (f := f) (g := g) hasg ds d fun d hd => h d (.tail _ hd)
    obtain ⟨h1, h2⟩ := h d (.head _)
    cases q : f d with
    | none =>
      rw [List.filterMap_cons_none q]
      exact ⟨n', .skip (h0 d) (h1 q) h3⟩
    | some y =>
      rw [List.filterMap_cons_some q]
      obtain ⟨a, b⟩ := h2 y q
      exact ⟨n', .take (zs := [y]) (h0 d) a ⟨y, rfl, rfl, b⟩ h3⟩
theorem Cp1.mapT {α : Type} {n₀ : Nm} (g : α → PV) (N : α → Nm) (f : α → PV) {ds : List α} (h0 : ∀ d, asg sc t (g d) n₀ = some (N d)) (hasg : ∀ e d, asg sc t (g d) (N e) = some (N d)) (h : ∀ d ∈ ds, Ev P k sc (N d) elt (f d)) : ∃ n', Cp1 P k sc elt t [] n₀ (ds.map g) (ds.map f) n' := by
  have := Cp1.filterMapT (P := P) (k := k) (elt := elt) (ifs := []) g N (fun d => some (f d)) h0 hasg fun d hd => ⟨(fun q => nomatch q), fun y q => by cases q; exact ⟨.nil, h d hd⟩⟩
  rw [show (fun d => some (f d)) = some ∘ f from rfl, List.filterMap_eq_map] at this
  exact this
end
end Mine

end
noncomputable section
open PySem PySem.W PyProof.Rows PySem.Calls
set_option Elab.async false
set_option linter.unusedVariables false
namespace Mine
def noE : Expr := .Name "" ⟨0, 0, 0, 0⟩
def stAt (l : List Stmt) (i : Nat) : Stmt := l.getD i (.Pass ⟨0, 0, 0, 0⟩)
def exAt (l : List Expr) (i : Nat) : Expr := l.getD i noE
def cpAt (l : List Comprehension) (i : Nat) : Comprehension := l.getD i ⟨noE, noE, [], 0⟩
def aFor0 : Stmt → Expr | .For t _ _ _ _ => t | _ => noE
def aFor1 : Stmt → Expr | .For _ i _ _ _ => i | _ => noE
def aFor2 : Stmt → List Stmt | .For _ _ b _ _ => b | _ => []
def aIf0 : Stmt → Expr | .If t _ _ _ => t | _ => noE
def aIf1 : Stmt → List Stmt | .If _ b _ _ => b | _ => []
def aIf2 : Stmt → List Stmt | .If _ _ b _ => b | _ => []
def aAsg1 : Stmt → Expr | .Assign _ v _ => v | _ => noE
def aRet0 : Stmt → Expr | .Return (some e) _ => e | _ => noE
def aLC0 : Expr → Expr | .ListComp e _ _ _ => e | _ => noE
def aLC1 : Expr → List Comprehension | .ListComp _ g _ _ => g | _ => []
def aLC2 : Expr → Scope | .ListComp _ _ s _ => s | _ => { kind := .function, names := [], isGenerator := false, isCoroutine := false, more := [] }
def aCall1 : Expr → List Expr | .Call _ a _ _ => a | _ => []
def aBin0 : Expr → Expr | .BinOp l _ _ _ => l | _ => noE
def aList0 : Expr → List Expr | .List l _ => l | _ => []
def aCmp0 : Expr → Expr | .Compare l _ _ _ => l | _ => noE
def aCmp2 : Expr → List Expr | .Compare _ _ c _ => c | _ => []
def aC0 (c : Comprehension) : Expr := c.target
def aC1 (c : Comprehension) : Expr := c.iter
def aC2 (c : Comprehension) : List Expr := c.ifs
theorem len0 {α : Type} {vs : List α} (h : vs.length = 0) : vs = [] := List.length_eq_zero_iff.mp h
theorem len1 {α : Type} {vs : List α} (h : vs.length = 1) : ∃ a, vs = [a] := by match vs, h with | [a], _ => exact ⟨a, rfl⟩
theorem len2 {α : Type} {vs : List α} (h : vs.length = 2) : ∃ a b, vs = [a, b] := by match vs, h with | [a, b], _ => exact ⟨a, b, rfl⟩
theorem len3 {α : Type} {vs : List α} (h : vs.length = 3) : ∃ a b c, vs = [a, b, c] := by match vs, h with | [a, b, c], _ => exact ⟨a, b, c, rfl⟩
theorem Ex1.assignC {P : Par} {k : Nat} {sc : Scope} {n : Nm} {x : Str} {p pos : Pos} {e : Expr} {d : PV} (he : Ev P k sc n e d) (hx : storable (sc.names.lookup x) = true) (hs : ∀ env : Env, env.scope = sc → swapsWith e (some (.Name x p)) pos.line env = pure false) :
    Ex1 P k sc n (.Assign [.Name x p] e pos) (.next (n.put x d)) := ⟨fun R G hW h =>
  wpAny_Assign_Name (he.go R G fun v s₁ g₁ r₁ => store_ok (G.grow g₁.heap) hx r₁ fun h' tk G' kp => h _ _ (Then.same G' hW (g₁.kept.trans (Kept.of tk kp)))) (hs _ G.scope)⟩
section
variable {P : Par} {k : Nat} {sc : Scope} {t elt : Expr} {body : List Stmt} {ifs : List Expr}
end
end Mine

end
noncomputable section
open PySem PySem.W PyProof.Rows PySem.Calls PyProof.V
set_option Elab.async false
set_option linter.unusedVariables false
namespace Mine
def entryOk (e : DictEntry) (p : Int × Str) : Bool := match e.key, e.val with
  | .int k _, .str x _ => k == p.1 && x == p.2 && e.hash == hashInt p.1
  | _, _ => false
def entriesOk : List DictEntry → List (Int × Str) → Bool
  | [], [] => true
  | e :: es, p :: ps => entryOk e p && entriesOk es ps
  | _, _ => false
def asc : List (Int × Str) → Bool
  | [] => true
  | [_] => true
  | a :: b :: r => decide (a.1 < b.1) && asc (b :: r)
theorem asc_lt : ∀ {l : List (Int × Str)} {a : Int × Str}, asc (a :: l) = true → ∀ b ∈ l, a.1 < b.1
  | [], _, _, _, h => nomatch h
  | c :: l, a, h, b, hb => by
    simp only [asc, Bool.and_eq_true, decide_eq_true_eq] at h
    rcases List.mem_cons.mp hb with rfl | hb
    · exact h.1
    · have := asc_lt h.2 b hb; omega
theorem asc_nodup : ∀ {l : List (Int × Str)}, asc l = true → (l.map (·.1)).Nodup
  | [], _ => List.nodup_nil
  | a :: l, h => by
    rw [List.map_cons, List.nodup_cons]
    refine ⟨fun hm => ?_, asc_nodup (by cases l with | nil => rfl | cons b l => simp only [asc, Bool.and_eq_true] at h; exact h.2)⟩
    obtain ⟨b, hb, e⟩ := List.mem_map.mp hm
    have := asc_lt h b hb
    omega
theorem entries_pairs {prog : Program} {w : World} : ∀ {es : List DictEntry} {ps : List (Int × Str)}, entriesOk es ps = true → ∃ kvs, Pairs (intKind prog w) es kvs ∧ FlatPairs PyData.int kvs (ps.map fun p => (PyData.int p.1, PyData.str p.2)) ∧ kvs.map (·.1) = ps.map (·.1) ∧ ∀ e ∈ es, ∃ k, (intKind prog w).is k e.key = true ∧ e.hash = (intKind prog w).hash k
  | [], [], _ => ⟨[], .nil, .nil, rfl, fun e he => nomatch he⟩
  | [], _ :: _, h => by simp [entriesOk] at h
  | _ :: _, [], h => by simp [entriesOk] at h
  | e :: es, p :: ps, h => by
    simp only [entriesOk, Bool.and_eq_true] at h
    obtain ⟨kvs, h1, h2, h3, h4⟩ := entries_pairs (prog := prog) (w := w) h.2
    obtain ⟨hh, key, val⟩ := e
    obtain ⟨i, x⟩ := p
    have he := h.1
    unfold entryOk at he
    split at he
    · rename_i k t y u hk hv
      simp only [Bool.and_eq_true, beq_iff_eq] at he hk hv
      obtain ⟨⟨rfl, rfl⟩, rfl⟩ := he
      subst hk; subst hv
      refine ⟨(k, .str y u) :: kvs, .cons (isInt_self k t) rfl h1, .cons (Flat.str y u) h2, by rw [List.map_cons, List.map_cons, h3], fun e he => ?_⟩
      rcases List.mem_cons.mp he with rfl | he
      · exact ⟨k, isInt_self k t, rfl⟩
      · exact h4 e he
    · cases he
/-- a dict of ints and texts stands at a place -/
theorem tab_of {prog : Program} {w : World} {h : Heap} {a : Addr} {es : List DictEntry} {n : Nat} {ps : List (Int × Str)} (ho : h.get? a = some { cls := .type "dict", data := .dict es.toArray n }) (ha : (a == sysModules) = false) (h1 : entriesOk es ps = true) (h2 : asc ps = true) :
    IntTab prog w h a (ps.map fun p => (PyData.int p.1, PyData.str p.2)) := by
  obtain ⟨kvs, p1, p2, p3, p4⟩ := entries_pairs (prog := prog) (w := w) h1
  exact ⟨ha, kvs, ⟨_, _, _, ho, ⟨rfl, rfl, rfl⟩, rfl, fun e he => p4 e (by simpa using he), by simpa using p1, by rw [p3]; exact asc_nodup h2⟩, p2⟩
def find (ps : List (Int × Str)) (i : Int) : Option Str := (ps.find? fun p => p.1 == i).map (·.2)
theorem lookup_find (ps : List (Int × Str)) (i : Int) : Spec.lookup (.int i) (ps.map fun p => (PyData.int p.1, PyData.str p.2)) = (find ps i).map PyData.str := by
  induction ps with
  | nil => rfl
  | cons p ps ih =>
    unfold find at ih ⊢
    rw [List.map_cons, List.find?_cons]
    show (if Spec.same (.int p.1) (.int i) = true then some (PyData.str p.2) else Spec.lookup (.int i) _) = _
    have : Spec.same (.int p.1) (.int i) = (p.1 == i) := by simp [Spec.same]
    rw [this]
    by_cases q : (p.1 == i) = true
    · rw [if_pos q, q]; rfl
    · rw [if_neg q, ih]
      have : (p.1 == i) = false := by simpa using q
      rw [this]

def elemsOk : List (Int × Value) → List Int → Bool
  | [], [] => true
  | (h, .int k _) :: es, i :: is => h == hashInt i && k == i && elemsOk es is
  | _, _ => false
theorem elems_of {prog : Program} {w : World} : ∀ {es : List (Int × Value)} {is : List Int}, elemsOk es is = true → ElemsOf (intKind prog w) es ∧ ∀ k, (∃ e ∈ es, (intKind prog w).is k e.2 = true) ↔ k ∈ is
  | [], [], _ => ⟨(fun e he => nomatch he), fun k => ⟨(fun ⟨e, he, _⟩ => nomatch he), (fun h => nomatch h)⟩⟩
  | [], _ :: _, h => by simp [elemsOk] at h
  | (a, v) :: es, [], h => by cases v <;> simp [elemsOk] at h
  | (a, v) :: es, i :: is, h => by
    cases v with
    | int k t =>
      simp only [elemsOk, Bool.and_eq_true, beq_iff_eq] at h
      obtain ⟨⟨rfl, rfl⟩, h⟩ := h
      obtain ⟨h1, h2⟩ := elems_of (prog := prog) (w := w) h
      refine ⟨fun e he => ?_, fun j => ⟨fun ⟨e, he, hj⟩ => ?_, fun hj => ?_⟩⟩
      · rcases List.mem_cons.mp he with rfl | he
        · exact ⟨⟨k, isInt_self k t, rfl⟩, rfl⟩
        · exact h1 e he
      · rcases List.mem_cons.mp he with rfl | he
        · have := (intKind prog w).inj _ _ _ hj (isInt_self k t)
          rw [this]; exact .head _
        · exact .tail _ ((h2 j).mp ⟨e, he, hj⟩)
      · rcases List.mem_cons.mp hj with rfl | hj
        · exact ⟨_, .head _, isInt_self _ t⟩
        · obtain ⟨e, he, hj⟩ := (h2 j).mpr hj
          exact ⟨e, .tail _ he, hj⟩
    | _ => simp [elemsOk] at h
theorem set_of {prog : Program} {w : World} {es : List (Int × Value)} {ep : Nat} {t : SetTable} {is : List Int} (h : elemsOk es is = true) (hf : t.fits es.length = true) :
    ({ cls := .type "set", dict := none, data := .set es.toArray ep t } : Obj).SetObjOf (intKind prog w) (fun k => decide (k ∈ is)) es.length := by
  obtain ⟨h1, h2⟩ := elems_of (prog := prog) (w := w) h
  exact ⟨⟨rfl, rfl, rfl⟩, _, _, _, rfl, by simpa using h1, fun k => by rw [decide_eq_true_iff]; simpa using (h2 k).symm, by simp, by simpa using hf⟩

section
variable {P : Par} {k : Nat} {sc : Scope} {n : Nm}
/-- an int in a set of the module's -/
theorem Ev.inSet {l : Expr} {x : Str} {p pos : Pos} {i : Int} {a : Addr} {o : Obj} {S : Int → Bool} {m : Nat} (hl : Ev P k sc n l (.int i)) (hx : sc.names.lookup x = some .globalImplicit) (hv : Glb P x (.ref a)) (hd : (x == ("__debug__" : Str)) = false) (ho : P.hB.get? a = some o) (hs : o.SetObjOf (intKind P.prog P.w) S m) (hm : m < 4096)
    (hmk : behindInMarks .In (.Name x p) = false) : Ev P k sc n (.Compare l [.In] [.Name x p] pos) (.bool (S i)) := ⟨fun R G h =>
  wpAny_Compare1 (hl.go R G fun v s₁ g₁ r₁ => glb (G.grow g₁.heap) hx hv hd (by
    cases r₁ with
    | int _ t => exact wpAny_inSet_of (isInt_self i t) rfl (hs.setOf ((G.grow g₁.heap).base _ _ ho) hm) (h _ _ (g₁.trans (Grow.toks _ _)) (.bool _)))) hmk⟩
def optPV : Option Str → PV
  | some x => .str x
  | none => .none
/-- a look into a dict of the module's -/
theorem Ev.dget {e : Expr} {x : Str} {p ap pos : Pos} {i : Int} {a : Addr} {ps : List (Int × Str)} (he : Ev P k sc n e (.int i)) (hx : sc.names.lookup x = some .globalImplicit) (hv : Glb P x (.ref a)) (hd : (x == ("__debug__" : Str)) = false) (hT : IntTab P.prog P.w P.hB a (ps.map fun p => (PyData.int p.1, PyData.str p.2)))
    (hstar : ∀ env, starEach [e] env = (false, eval e env) :: starEach [] env)
    (hm : ∀ env, ∃ pl, eval (.Call (.Attribute (.Name x p) "get" ap) [e] [] pos) env = (do let ov ← eval (.Name x p) env; standAt ap.atName; let (f, first) ← holding [ov] (getMethod ov "get" pl); callWith pos f first (backTo pos (starEach [e] env)) [])) :
    Ev P k sc n (.Call (.Attribute (.Name x p) "get" ap) [e] [] pos) (optPV (find ps i)) := ⟨by
  intro A env W X s E Q R G h
  obtain ⟨pl, hm⟩ := hm env
  refine MethodCall_ (pl := pl) (glb G hx hv hd ?_) hm
  refine getMethod_intTab_get (hT.keep G.base) (callWith_method1 ((Evs.cons he .nil hstar).go R G fun us s₁ g₁ rs => ?_) (hstar env))
  cases rs with
  | cons r₁ rn =>
  cases rn
  cases r₁ with
  | int _ t =>
  refine call_get1_intTab (hT.keep (G.grow g₁.heap).base) fun v hf => ?_
  rw [lookup_find] at hf
  refine h v _ (g₁.trans (Grow.toks _ _)) ?_
  cases q : find ps i with
  | none => rw [q] at hf; rw [Flat.none_inv hf]; exact .none
  | some y => rw [q] at hf; obtain ⟨u, rfl⟩ := Flat.str_inv hf; exact .str _ _⟩
end
end Mine

end
noncomputable section
namespace Mine.Ws
theorem mx_snoc (cs : List Nat) (b : Nat) : mx (cs ++ [b]) = max (mx cs) b := by
  induction cs with
  | nil => simp [mx]
  | cons c cs ih => simp only [List.cons_append, mx, ih, Nat.max_assoc]
theorem getElem?_of {xs : List Nat} {j : Nat} (h : j < xs.length) : xs[j]? = some (xs.getD j 0) := by
  rw [List.getD_eq_getElem?_getD, List.getElem?_eq_getElem h]; rfl
/-- the counts with room for a width -/
def grown (cs : List Nat) (b : Nat) : List Nat := if (counts cs).length ≤ b then counts cs ++ List.replicate (b - (counts cs).length + 1) 0 else counts cs
theorem grown_length (cs : List Nat) (b : Nat) : (grown cs b).length = max (counts cs).length (b + 1) := by
  unfold grown
  split
  · rw [List.length_append, List.length_replicate]; omega
  · omega
theorem grown_getD (cs : List Nat) (b j : Nat) : (grown cs b).getD j 0 = cs.count j := by
  unfold grown
  split
  · rename_i h
    rw [List.getD_eq_getElem?_getD]
    by_cases hj : j < (counts cs).length
    · rw [List.getElem?_append_left hj, ← List.getD_eq_getElem?_getD, counts_getD]
    · rw [List.getElem?_append_right (by omega)]
      have hc : cs.count j = 0 := by rw [← counts_getD, List.getD_eq_getElem?_getD, List.getElem?_eq_none (by omega)]; rfl
      rw [hc]
      by_cases q : j - (counts cs).length < b - (counts cs).length + 1
      · rw [List.getElem?_replicate, if_pos q]; rfl
      · rw [List.getElem?_replicate, if_neg q]; rfl
  · exact counts_getD cs j
theorem counts_snoc (cs : List Nat) (b : Nat) : counts (cs ++ [b]) = (grown cs b).set b (cs.count b + 1) := by
  apply List.ext_getElem?
  intro j
  have hl : (counts (cs ++ [b])).length = ((grown cs b).set b (cs.count b + 1)).length := by
    rw [List.length_set, grown_length, counts_length, counts_length, mx_snoc, if_neg (by simp)]
    split
    · rename_i h; subst h; simp [mx]
    · omega
  by_cases hj : j < (counts (cs ++ [b])).length
  · rw [getElem?_of hj, counts_getD]
    have hj' : j < (grown cs b).length := by rw [hl, List.length_set] at hj; exact hj
    rw [List.getElem?_set]
    by_cases q : b = j
    · subst q
      rw [if_pos rfl, if_pos hj']
      simp [List.count_append]
    · rw [if_neg q, getElem?_of hj', grown_getD]
      simp [List.count_append, q]
  · rw [List.getElem?_eq_none (by omega), List.getElem?_eq_none (by omega)]
/-- the cells of a text of blanks and tabs -/
def cellStep (c : List Nat × Nat) (x : Nat) : List Nat × Nat := if x = 9 then (c.1 ++ [c.2], 0) else (c.1, c.2 + 1)
def cellsOf (t : List Nat) : List Nat × Nat := t.foldl cellStep ([], 0)
end Mine.Ws

end
noncomputable section
namespace Mine.Ws
theorem foldl_sum (g : Nat → Nat) : ∀ (l : List Nat) (a : Nat), l.foldl (fun il i => il + g i) a = a + (l.map g).sum
  | [], a => by simp
  | x :: l, a => by rw [List.foldl_cons, foldl_sum g l, List.map_cons, List.sum_cons]; omega
theorem sum_tail (g : Nat → Nat) (ts : Nat) (h : ∀ i, i < ts → g i = 0) : ∀ n, ts ≤ n → ((List.range n).map g).sum = ((List.range (n - ts)).map fun j => g (ts + j)).sum := by
  intro n hn
  obtain ⟨k, rfl⟩ : ∃ k, n = ts + k := ⟨n - ts, by omega⟩
  rw [Nat.add_sub_cancel_left, List.range_add, List.map_append, List.sum_append, List.map_map]
  have : ((List.range ts).map g).sum = 0 := by
    rw [List.map_congr_left fun i hi => h i (List.mem_range.mp hi)]
    exact sum_zero ts
  rw [this, Nat.zero_add]
  rfl
theorem mx_counts {cs : List Nat} (h : cs ≠ []) : (counts cs).length = mx cs + 1 := by rw [counts_length, if_neg h]
theorem level_fold (ts : Nat) (cs : List Nat) : ((List.range ((counts cs).length - ts)).map fun j => ts + j).foldl (fun il i => il + i / ts * cs.count i) 0 = stops ts cs := by
  rw [foldl_sum (fun i => i / ts * cs.count i), Nat.zero_add, List.map_map]
  by_cases e : cs = []
  · subst e; simp [counts, stops]
  · have hl := mx_counts e
    by_cases q : ts ≤ (counts cs).length
    · rw [stops_counts ts cs (counts cs).length (by omega)]
      rw [sum_tail (fun i => i / ts * cs.count i) ts (fun i hi => by rw [Nat.div_eq_of_lt hi, Nat.zero_mul]) _ q]
      rfl
    · have : (counts cs).length - ts = 0 := by omega
      rw [this, stops_big (by omega)]
      rfl
/-- the widest cell of an indent, the last one too -/
def widest (cs : List Nat) (b : Nat) : Nat := max (mx cs) b
end Mine.Ws

end
noncomputable section
open PySem PySem.W PyProof.Rows PySem.Calls Mine
set_option Elab.async false
set_option linter.unusedVariables false
set_option maxRecDepth 100000
namespace L02
noncomputable section
theorem noLim (P : Params) : (hF P).NoLimit := ⟨_, Heap.Ns.of_isNs (by kernel_rfl), by kernel_rfl⟩
abbrev mg (P : Params) : Str → Option Value := (hF P).nsMap mainGlobals
abbrev mb (P : Params) : Str → Option Value := (hF P).nsMap builtinsNs
abbrev mN (P : Params) : Str → Option Value := (hF P).nsMap 82
def Gd (w : World) : Par := ⟨pw, w, 83, hF w.params, mg w.params, mb w.params, Heap.Ns.of_isNs (ns_blt w.params), Heap.Ns.of_isNs (ns_main w.params), noLim w.params⟩
theorem at_83 (P : Params) : (hF P).get? 83 = some (oA_83 P) := (abs_get (by decide) (show (TF P).get 83 = some (oA_83 P) by kernel_rfl)).trans rfl
theorem kls (w : World) : Kls (Gd w) 82 (mN w.params) := ⟨⟨⟨_, _, _, _, _, _, _, _, _, _, _, _, at_83 w.params⟩, Heap.Ns.of_isNs (by kernel_rfl)⟩, by kernel_rfl, by kernel_rfl⟩
def frag (P : Params) : Frag := [(83, oA_83 P), (82, oA_82 P), (2, boot_o_2 P)]
theorem at_82 (P : Params) : (hF P).get? 82 = some (oA_82 P) := (abs_get (by decide) (show (TF P).get 82 = some (oA_82 P) by kernel_rfl)).trans rfl
theorem at_2 (P : Params) : (hF P).get? 2 = some (boot_o_2 P) := (abs_get (by decide) (show (TF P).get 2 = some (boot_o_2 P) by kernel_rfl)).trans rfl
theorem frag_in (P : Params) : (frag P).In (hF P) := fun a o e => by
  unfold frag at e
  simp only [List.lookup] at e
  split at e
  · rename_i q; rw [beq_iff_eq] at q; subst q; cases e; exact at_83 P
  · split at e
    · rename_i q; rw [beq_iff_eq] at q; subst q; cases e; exact at_82 P
    · split at e
      · rename_i q; rw [beq_iff_eq] at q; subst q; cases e; exact at_2 P
      · cases e
theorem reads (P : Params) : readsIn (frag P) 83 (.type "type") = true := by kernel_rfl
theorem cls_S (P : Params) : findCls (frag P) (.ref 83) (.type "type") "S" = some (.val (.str " " 209)) := by kernel_rfl
theorem cls_T (P : Params) : findCls (frag P) (.ref 83) (.type "type") "T" = some (.val (.str "\t" 210)) := by kernel_rfl
abbrev ad_cls : Addr := 83
theorem no_sa (P : Params) : mN P "__setattr__" = none := by kernel_rfl
theorem at_38 (P : Params) : (hF P).get? 38 = some (oA_38 P) := (abs_get (by decide) (show (TF P).get 38 = some (oA_38 P) by kernel_rfl)).trans rfl
theorem at_37 (P : Params) : (hF P).get? 37 = some (oA_37 P) := (abs_get (by decide) (show (TF P).get 37 = some (oA_37 P) by kernel_rfl)).trans rfl
theorem at_init (P : Params) : (hF P).get? 38 = some (oA_38 P) := at_38 P
abbrev fd_init : FuncData := fD (dC 2 1) (.ofString "__init__") (.ofString "Whitespace.__init__") 3 0 .none .none .none (.str (.ofString "cpy313.tabnanny") 194) none (.ref 37) .none 0
abbrev ad_init : Addr := 38
abbrev bd_init : List Stmt := sBody (dC 2 1)
theorem fn_init (w : World) : FnAt (Gd w) 38 fd_init (bd_init) ["self", "ws"] :=
  ⟨⟨_, at_38 w.params, rfl⟩, ⟨_, _, _, _, rfl, at_37 w.params, rfl, rfl⟩, rfl, rfl, rfl, rfl, by kernel_rfl, by kernel_rfl, by kernel_rfl, by kernel_rfl, by kernel_rfl, by decide +kernel, fun vs h => by
    obtain ⟨v0, v1, rfl⟩ := len2 h
    rfl⟩
theorem at_45 (P : Params) : (hF P).get? 45 = some (oA_45 P) := (abs_get (by decide) (show (TF P).get 45 = some (oA_45 P) by kernel_rfl)).trans rfl
theorem at_44 (P : Params) : (hF P).get? 44 = some (oA_44 P) := (abs_get (by decide) (show (TF P).get 44 = some (oA_44 P) by kernel_rfl)).trans rfl
theorem at_longest_run_of_spaces (P : Params) : (hF P).get? 45 = some (oA_45 P) := at_45 P
abbrev fd_longest_run_of_spaces : FuncData := fD (dC 2 2) (.ofString "longest_run_of_spaces") (.ofString "Whitespace.longest_run_of_spaces") 3 0 .none .none .none (.str (.ofString "cpy313.tabnanny") 194) none (.ref 44) .none 0
abbrev ad_longest_run_of_spaces : Addr := 45
abbrev bd_longest_run_of_spaces : List Stmt := sBody (dC 2 2)
theorem fn_longest_run_of_spaces (w : World) : FnAt (Gd w) 45 fd_longest_run_of_spaces (bd_longest_run_of_spaces) ["self"] :=
  ⟨⟨_, at_45 w.params, rfl⟩, ⟨_, _, _, _, rfl, at_44 w.params, rfl, rfl⟩, rfl, rfl, rfl, rfl, by kernel_rfl, by kernel_rfl, by kernel_rfl, by kernel_rfl, by kernel_rfl, by decide +kernel, fun vs h => by
    obtain ⟨v0, rfl⟩ := len1 h
    rfl⟩
theorem at_52 (P : Params) : (hF P).get? 52 = some (oA_52 P) := (abs_get (by decide) (show (TF P).get 52 = some (oA_52 P) by kernel_rfl)).trans rfl
theorem at_51 (P : Params) : (hF P).get? 51 = some (oA_51 P) := (abs_get (by decide) (show (TF P).get 51 = some (oA_51 P) by kernel_rfl)).trans rfl
theorem at_indent_level (P : Params) : (hF P).get? 52 = some (oA_52 P) := at_52 P
abbrev fd_indent_level : FuncData := fD (dC 2 3) (.ofString "indent_level") (.ofString "Whitespace.indent_level") 3 0 .none .none .none (.str (.ofString "cpy313.tabnanny") 194) none (.ref 51) .none 0
abbrev ad_indent_level : Addr := 52
abbrev bd_indent_level : List Stmt := sBody (dC 2 3)
theorem fn_indent_level (w : World) : FnAt (Gd w) 52 fd_indent_level (bd_indent_level) ["self", "tabsize"] :=
  ⟨⟨_, at_52 w.params, rfl⟩, ⟨_, _, _, _, rfl, at_51 w.params, rfl, rfl⟩, rfl, rfl, rfl, rfl, by kernel_rfl, by kernel_rfl, by kernel_rfl, by kernel_rfl, by kernel_rfl, by decide +kernel, fun vs h => by
    obtain ⟨v0, v1, rfl⟩ := len2 h
    rfl⟩
theorem at_59 (P : Params) : (hF P).get? 59 = some (oA_59 P) := (abs_get (by decide) (show (TF P).get 59 = some (oA_59 P) by kernel_rfl)).trans rfl
theorem at_58 (P : Params) : (hF P).get? 58 = some (oA_58 P) := (abs_get (by decide) (show (TF P).get 58 = some (oA_58 P) by kernel_rfl)).trans rfl
theorem at_equal (P : Params) : (hF P).get? 59 = some (oA_59 P) := at_59 P
abbrev fd_equal : FuncData := fD (dC 2 4) (.ofString "equal") (.ofString "Whitespace.equal") 3 0 .none .none .none (.str (.ofString "cpy313.tabnanny") 194) none (.ref 58) .none 0
abbrev ad_equal : Addr := 59
abbrev bd_equal : List Stmt := sBody (dC 2 4)
theorem fn_equal (w : World) : FnAt (Gd w) 59 fd_equal (bd_equal) ["self", "other"] :=
  ⟨⟨_, at_59 w.params, rfl⟩, ⟨_, _, _, _, rfl, at_58 w.params, rfl, rfl⟩, rfl, rfl, rfl, rfl, by kernel_rfl, by kernel_rfl, by kernel_rfl, by kernel_rfl, by kernel_rfl, by decide +kernel, fun vs h => by
    obtain ⟨v0, v1, rfl⟩ := len2 h
    rfl⟩
theorem at_66 (P : Params) : (hF P).get? 66 = some (oA_66 P) := (abs_get (by decide) (show (TF P).get 66 = some (oA_66 P) by kernel_rfl)).trans rfl
theorem at_65 (P : Params) : (hF P).get? 65 = some (oA_65 P) := (abs_get (by decide) (show (TF P).get 65 = some (oA_65 P) by kernel_rfl)).trans rfl
theorem at_not_equal_witness (P : Params) : (hF P).get? 66 = some (oA_66 P) := at_66 P
abbrev fd_not_equal_witness : FuncData := fD (dC 2 5) (.ofString "not_equal_witness") (.ofString "Whitespace.not_equal_witness") 3 0 .none .none .none (.str (.ofString "cpy313.tabnanny") 194) none (.ref 65) .none 0
abbrev ad_not_equal_witness : Addr := 66
abbrev bd_not_equal_witness : List Stmt := sBody (dC 2 5)
theorem fn_not_equal_witness (w : World) : FnAt (Gd w) 66 fd_not_equal_witness (bd_not_equal_witness) ["self", "other"] :=
  ⟨⟨_, at_66 w.params, rfl⟩, ⟨_, _, _, _, rfl, at_65 w.params, rfl, rfl⟩, rfl, rfl, rfl, rfl, by kernel_rfl, by kernel_rfl, by kernel_rfl, by kernel_rfl, by kernel_rfl, by decide +kernel, fun vs h => by
    obtain ⟨v0, v1, rfl⟩ := len2 h
    rfl⟩
theorem at_105 (P : Params) : (hF P).get? 105 = some (oC_105 P) := (abs_get (by decide) (show (TF P).get 105 = some (oC_105 P) by kernel_rfl)).trans rfl
theorem at_104 (P : Params) : (hF P).get? 104 = some (oC_104 P) := (abs_get (by decide) (show (TF P).get 104 = some (oC_104 P) by kernel_rfl)).trans rfl
theorem at_in_table_b1 (P : Params) : (hF P).get? 105 = some (oC_105 P) := at_105 P
abbrev fd_in_table_b1 : FuncData := fD (dT 5) (.ofString "in_table_b1") (.ofString "in_table_b1") 3 0 .none .none .none (.str (.ofString "cpy313.stringprep") 297) none (.ref 104) .none 0
abbrev ad_in_table_b1 : Addr := 105
abbrev bd_in_table_b1 : List Stmt := sBody (dT 5)
theorem fn_in_table_b1 (w : World) : FnAt (Gd w) 105 fd_in_table_b1 (bd_in_table_b1) ["code"] :=
  ⟨⟨_, at_105 w.params, rfl⟩, ⟨_, _, _, _, rfl, at_104 w.params, rfl, rfl⟩, rfl, rfl, rfl, rfl, by kernel_rfl, by kernel_rfl, by kernel_rfl, by kernel_rfl, by kernel_rfl, by decide +kernel, fun vs h => by
    obtain ⟨v0, rfl⟩ := len1 h
    rfl⟩
theorem at_151 (P : Params) : (hF P).get? 151 = some (oF_151 P) := (abs_get (by decide) (show (TF P).get 151 = some (oF_151 P) by kernel_rfl)).trans rfl
theorem at_150 (P : Params) : (hF P).get? 150 = some (oF_150 P) := (abs_get (by decide) (show (TF P).get 150 = some (oF_150 P) by kernel_rfl)).trans rfl
theorem at_map_table_b3 (P : Params) : (hF P).get? 151 = some (oF_151 P) := at_151 P
abbrev fd_map_table_b3 : FuncData := fD (dT 7) (.ofString "map_table_b3") (.ofString "map_table_b3") 3 0 .none .none .none (.str (.ofString "cpy313.stringprep") 297) none (.ref 150) .none 0
abbrev ad_map_table_b3 : Addr := 151
abbrev bd_map_table_b3 : List Stmt := sBody (dT 7)
theorem fn_map_table_b3 (w : World) : FnAt (Gd w) 151 fd_map_table_b3 (bd_map_table_b3) ["code"] :=
  ⟨⟨_, at_151 w.params, rfl⟩, ⟨_, _, _, _, rfl, at_150 w.params, rfl, rfl⟩, rfl, rfl, rfl, rfl, by kernel_rfl, by kernel_rfl, by kernel_rfl, by kernel_rfl, by kernel_rfl, by decide +kernel, fun vs h => by
    obtain ⟨v0, rfl⟩ := len1 h
    rfl⟩
theorem at_156 (P : Params) : (hF P).get? 156 = some (oF_156 P) := (abs_get (by decide) (show (TF P).get 156 = some (oF_156 P) by kernel_rfl)).trans rfl
theorem at_155 (P : Params) : (hF P).get? 155 = some (oF_155 P) := (abs_get (by decide) (show (TF P).get 155 = some (oF_155 P) by kernel_rfl)).trans rfl
theorem at_many (P : Params) : (hF P).get? 156 = some (oF_156 P) := at_156 P
abbrev fd_many : FuncData := fD (dT 9) (.ofString "_law_many") (.ofString "_law_many") 3 0 .none .none .none (.str (.ofString "law_nb0274_02") 2325) none (.ref 155) .none 0
abbrev ad_many : Addr := 156
abbrev bd_many : List Stmt := sBody (dT 9)
theorem fn_many (w : World) : FnAt (Gd w) 156 fd_many (bd_many) [] :=
  ⟨⟨_, at_156 w.params, rfl⟩, ⟨_, _, _, _, rfl, at_155 w.params, rfl, rfl⟩, rfl, rfl, rfl, rfl, by kernel_rfl, by kernel_rfl, by kernel_rfl, by kernel_rfl, by kernel_rfl, by decide +kernel, fun vs h => by
    obtain rfl := len0 h
    rfl⟩
theorem at_161 (P : Params) : (hF P).get? 161 = some (oF_161 P) := (abs_get (by decide) (show (TF P).get 161 = some (oF_161 P) by kernel_rfl)).trans rfl
theorem at_160 (P : Params) : (hF P).get? 160 = some (oF_160 P) := (abs_get (by decide) (show (TF P).get 160 = some (oF_160 P) by kernel_rfl)).trans rfl
theorem at_nothing (P : Params) : (hF P).get? 161 = some (oF_161 P) := at_161 P
abbrev fd_nothing : FuncData := fD (dT 10) (.ofString "_law_nothing") (.ofString "_law_nothing") 3 0 .none .none .none (.str (.ofString "law_nb0274_02") 2325) none (.ref 160) .none 0
abbrev ad_nothing : Addr := 161
abbrev bd_nothing : List Stmt := sBody (dT 10)
theorem fn_nothing (w : World) : FnAt (Gd w) 161 fd_nothing (bd_nothing) [] :=
  ⟨⟨_, at_161 w.params, rfl⟩, ⟨_, _, _, _, rfl, at_160 w.params, rfl, rfl⟩, rfl, rfl, rfl, rfl, by kernel_rfl, by kernel_rfl, by kernel_rfl, by kernel_rfl, by kernel_rfl, by decide +kernel, fun vs h => by
    obtain rfl := len0 h
    rfl⟩
theorem at_168 (P : Params) : (hF P).get? 168 = some (oF_168 P) := (abs_get (by decide) (show (TF P).get 168 = some (oF_168 P) by kernel_rfl)).trans rfl
theorem at_167 (P : Params) : (hF P).get? 167 = some (oF_167 P) := (abs_get (by decide) (show (TF P).get 167 = some (oF_167 P) by kernel_rfl)).trans rfl
theorem at_sign (P : Params) : (hF P).get? 168 = some (oF_168 P) := at_168 P
abbrev fd_sign : FuncData := fD (dT 11) (.ofString "_law_sign") (.ofString "_law_sign") 3 0 .none .none .none (.str (.ofString "law_nb0274_02") 2325) none (.ref 167) .none 0
abbrev ad_sign : Addr := 168
abbrev bd_sign : List Stmt := sBody (dT 11)
theorem fn_sign (w : World) : FnAt (Gd w) 168 fd_sign (bd_sign) ["letter", "x", "nothing"] :=
  ⟨⟨_, at_168 w.params, rfl⟩, ⟨_, _, _, _, rfl, at_167 w.params, rfl, rfl⟩, rfl, rfl, rfl, rfl, by kernel_rfl, by kernel_rfl, by kernel_rfl, by kernel_rfl, by kernel_rfl, by decide +kernel, fun vs h => by
    obtain ⟨v0, v1, v2, rfl⟩ := len3 h
    rfl⟩
theorem at_175 (P : Params) : (hF P).get? 175 = some (oF_175 P) := (abs_get (by decide) (show (TF P).get 175 = some (oF_175 P) by kernel_rfl)).trans rfl
theorem at_174 (P : Params) : (hF P).get? 174 = some (oF_174 P) := (abs_get (by decide) (show (TF P).get 174 = some (oF_174 P) by kernel_rfl)).trans rfl
theorem at_word (P : Params) : (hF P).get? 175 = some (oF_175 P) := at_175 P
abbrev fd_word : FuncData := fD (dT 12) (.ofString "_law_word") (.ofString "_law_word") 3 0 .none .none .none (.str (.ofString "law_nb0274_02") 2325) none (.ref 174) .none 0
abbrev ad_word : Addr := 175
abbrev bd_word : List Stmt := sBody (dT 12)
theorem fn_word (w : World) : FnAt (Gd w) 175 fd_word (bd_word) ["numbers", "nothing"] :=
  ⟨⟨_, at_175 w.params, rfl⟩, ⟨_, _, _, _, rfl, at_174 w.params, rfl, rfl⟩, rfl, rfl, rfl, rfl, by kernel_rfl, by kernel_rfl, by kernel_rfl, by kernel_rfl, by kernel_rfl, by decide +kernel, fun vs h => by
    obtain ⟨v0, v1, rfl⟩ := len2 h
    rfl⟩
theorem at_180 (P : Params) : (hF P).get? 180 = some (oF_180 P) := (abs_get (by decide) (show (TF P).get 180 = some (oF_180 P) by kernel_rfl)).trans rfl
theorem at_179 (P : Params) : (hF P).get? 179 = some (oF_179 P) := (abs_get (by decide) (show (TF P).get 179 = some (oF_179 P) by kernel_rfl)).trans rfl
theorem at_spelled (P : Params) : (hF P).get? 180 = some (oF_180 P) := at_180 P
abbrev fd_spelled : FuncData := fD (dT 13) (.ofString "_law_spelled") (.ofString "_law_spelled") 3 0 .none .none .none (.str (.ofString "law_nb0274_02") 2325) none (.ref 179) .none 0
abbrev ad_spelled : Addr := 180
abbrev bd_spelled : List Stmt := sBody (dT 13)
theorem fn_spelled (w : World) : FnAt (Gd w) 180 fd_spelled (bd_spelled) ["letters", "numbers", "nothing"] :=
  ⟨⟨_, at_180 w.params, rfl⟩, ⟨_, _, _, _, rfl, at_179 w.params, rfl, rfl⟩, rfl, rfl, rfl, rfl, by kernel_rfl, by kernel_rfl, by kernel_rfl, by kernel_rfl, by kernel_rfl, by decide +kernel, fun vs h => by
    obtain ⟨v0, v1, v2, rfl⟩ := len3 h
    rfl⟩
theorem at_185 (P : Params) : (hF P).get? 185 = some (oF_185 P) := (abs_get (by decide) (show (TF P).get 185 = some (oF_185 P) by kernel_rfl)).trans rfl
theorem at_184 (P : Params) : (hF P).get? 184 = some (oF_184 P) := (abs_get (by decide) (show (TF P).get 184 = some (oF_184 P) by kernel_rfl)).trans rfl
theorem at_prepared (P : Params) : (hF P).get? 185 = some (oF_185 P) := at_185 P
abbrev fd_prepared : FuncData := fD (dT 14) (.ofString "_law_prepared") (.ofString "_law_prepared") 3 0 .none .none .none (.str (.ofString "law_nb0274_02") 2325) none (.ref 184) .none 0
abbrev ad_prepared : Addr := 185
abbrev bd_prepared : List Stmt := sBody (dT 14)
theorem fn_prepared (w : World) : FnAt (Gd w) 185 fd_prepared (bd_prepared) ["spelling"] :=
  ⟨⟨_, at_185 w.params, rfl⟩, ⟨_, _, _, _, rfl, at_184 w.params, rfl, rfl⟩, rfl, rfl, rfl, rfl, by kernel_rfl, by kernel_rfl, by kernel_rfl, by kernel_rfl, by kernel_rfl, by decide +kernel, fun vs h => by
    obtain ⟨v0, rfl⟩ := len1 h
    rfl⟩
theorem at_190 (P : Params) : (hF P).get? 190 = some (oF_190 P) := (abs_get (by decide) (show (TF P).get 190 = some (oF_190 P) by kernel_rfl)).trans rfl
theorem at_189 (P : Params) : (hF P).get? 189 = some (oF_189 P) := (abs_get (by decide) (show (TF P).get 189 = some (oF_189 P) by kernel_rfl)).trans rfl
theorem at_column (P : Params) : (hF P).get? 190 = some (oF_190 P) := at_190 P
abbrev fd_column : FuncData := fD (dT 15) (.ofString "_law_column") (.ofString "_law_column") 3 0 .none .none .none (.str (.ofString "law_nb0274_02") 2325) none (.ref 189) .none 0
abbrev ad_column : Addr := 190
abbrev bd_column : List Stmt := sBody (dT 15)
theorem fn_column (w : World) : FnAt (Gd w) 190 fd_column (bd_column) ["places", "behind", "size"] :=
  ⟨⟨_, at_190 w.params, rfl⟩, ⟨_, _, _, _, rfl, at_189 w.params, rfl, rfl⟩, rfl, rfl, rfl, rfl, by kernel_rfl, by kernel_rfl, by kernel_rfl, by kernel_rfl, by kernel_rfl, by decide +kernel, fun vs h => by
    obtain ⟨v0, v1, v2, rfl⟩ := len3 h
    rfl⟩
theorem at_195 (P : Params) : (hF P).get? 195 = some (oF_195 P) := (abs_get (by decide) (show (TF P).get 195 = some (oF_195 P) by kernel_rfl)).trans rfl
theorem at_194 (P : Params) : (hF P).get? 194 = some (oF_194 P) := (abs_get (by decide) (show (TF P).get 194 = some (oF_194 P) by kernel_rfl)).trans rfl
abbrev fd_law : FuncData := fD (dT 16) (.ofString "law") (.ofString "law") 3 0 .none .none .none (.str (.ofString "law_nb0274_02") 2325) none (.ref 194) .none 0
abbrev ad_law : Addr := 195
abbrev bd_law : List Stmt := sBody (dT 16)
theorem fn_law (w : World) : FnAt (Gd w) 195 fd_law (bd_law) ["script"] :=
  ⟨⟨_, at_195 w.params, rfl⟩, ⟨_, _, _, _, rfl, at_194 w.params, rfl, rfl⟩, rfl, rfl, rfl, rfl, by kernel_rfl, by kernel_rfl, by kernel_rfl, by kernel_rfl, by kernel_rfl, by decide +kernel, fun vs h => by
    obtain ⟨v0, rfl⟩ := len1 h
    rfl⟩
end
end L02

end
noncomputable section
open PySem PySem.W PyProof.Rows PySem.Calls Mine
set_option Elab.async false
set_option linter.unusedVariables false
set_option maxRecDepth 100000
namespace L02
def nats (l : List Nat) : List PV := l.map fun (c : Nat) => PV.int (c : Int)
/-- an indent: its text, its closed cells, its last cell -/
def wsPV (t : Str) (cs : List Nat) (b : Nat) : PV := .obj [("raw", .str t), ("n", .int t.length), ("nt", .int cs.length), ("norm", .tup [.tup (nats (Ws.counts cs)), .int b]), ("is_simple", .bool (decide (((Ws.counts cs).length : Int) ≤ 1)))]
def chStep (c : (List Nat × Nat) × Nat) : PV → (List Nat × Nat) × Nat
  | .str x => (Ws.cellStep c.1 (x.cps.getD 0 0), c.2 + 1)
  | _ => c
def nmI (t : Str) (a dx : Addr) (c : (List Nat × Nat) × Nat) (e : PV) : Nm :=
  ⟨[("ws", .str t), ("T", .str "\t"), ("S", .str " "), ("b", .int c.1.2), ("n", .int c.2), ("nt", .int c.1.1.length), ("ch", e)], some ("count", nats (Ws.counts c.1.1)), some ("self", a, dx, [("raw", .str t)])⟩
theorem nats_set (l : List Nat) (j v : Nat) : nats (l.set j v) = (nats l).set j (.int (v : Int)) := by simp [nats, List.map_set]
theorem glb_W (w : World) : Glb (Gd w) "Whitespace" (.ref (Gd w).C) := .inl (by kernel_rfl)
theorem glb_len (w : World) : Glb (Gd w) "len" (.builtin "len") := .inr ⟨by kernel_rfl, by kernel_rfl⟩
theorem glb_max (w : World) : Glb (Gd w) "max" (.builtin "max") := .inr ⟨by kernel_rfl, by kernel_rfl⟩
theorem glb_range (w : World) : Glb (Gd w) "range" (.type "range") := .inr ⟨by kernel_rfl, by kernel_rfl⟩
theorem glb_tuple (w : World) : Glb (Gd w) "tuple" (.type "tuple") := .inr ⟨by kernel_rfl, by kernel_rfl⟩
theorem oB_raw : typeLookup (.type "object") "raw" = pure none := by rw [typeLookup_type, builtinLookup_eq_fast]; kernel_rfl
theorem oB_n : typeLookup (.type "object") "n" = pure none := by rw [typeLookup_type, builtinLookup_eq_fast]; kernel_rfl
theorem oB_nt : typeLookup (.type "object") "nt" = pure none := by rw [typeLookup_type, builtinLookup_eq_fast]; kernel_rfl
theorem oB_norm : typeLookup (.type "object") "norm" = pure none := by rw [typeLookup_type, builtinLookup_eq_fast]; kernel_rfl
theorem oB_is : typeLookup (.type "object") "is_simple" = pure none := by rw [typeLookup_type, builtinLookup_eq_fast]; kernel_rfl
theorem mN_raw (P : Params) : mN P "raw" = none := by kernel_rfl
theorem mN_n (P : Params) : mN P "n" = none := by kernel_rfl
theorem mN_nt (P : Params) : mN P "nt" = none := by kernel_rfl
theorem mN_norm (P : Params) : mN P "norm" = none := by kernel_rfl
theorem mN_is (P : Params) : mN P "is_simple" = none := by kernel_rfl
theorem mN_init (P : Params) : mN P "__init__" = some (.ref ad_init) := by kernel_rfl
theorem nats_len (l : List Nat) : (nats l).length = l.length := by simp [nats]
theorem nats_get (l : List Nat) (j : Nat) (h : j < l.length) : (nats l)[j]? = some (.int (l.getD j 0 : Nat)) := by
  unfold nats
  rw [List.getElem?_map, Ws.getElem?_of h]; rfl
theorem cmp_bb : cmpPV .Eq (.str ⟨#[32]⟩) (.str " ") = some true := by kernel_rfl
theorem cmp_tb : cmpPV .Eq (.str ⟨#[9]⟩) (.str " ") = some false := by kernel_rfl
theorem cmp_tt : cmpPV .Eq (.str ⟨#[9]⟩) (.str "\t") = some true := by kernel_rfl
theorem inc {P : Par} {k : Nat} {sc : Scope} {n : Nm} {l : Expr} {m j : Nat} {p pos : Pos} (h : Ev P k sc n l (.int (m : Nat))) : Ev P k sc n (.BinOp l .Add (.Constant (.int 1) j p) pos) (.int (m + 1 : Nat)) := by
  have := Ev.addI (pos := pos) h (Ev.int 1 j p)
  simpa using this

def nmG (t : Str) (a dx : Addr) (cs : List Nat) (b m : Nat) (l : List Nat) : Nm := ⟨[("ws", .str t), ("T", .str "\t"), ("S", .str " "), ("b", .int b), ("n", .int (m + 1 : Nat)), ("nt", .int (cs.length + 1 : Nat)), ("ch", .str ⟨#[9]⟩)], some ("count", nats l), some ("self", a, dx, [("raw", .str t)])⟩
theorem grown_eq {cs : List Nat} {b : Nat} (q : (Ws.counts cs).length ≤ b) : nats (Ws.counts cs) ++ (List.replicate ((b : Int) - ((Ws.counts cs).length : Int) + 1).toNat [PV.int 0]).flatten = nats (Ws.grown cs b) := by
  have e : ((b : Int) - ((Ws.counts cs).length : Int) + 1).toNat = b - (Ws.counts cs).length + 1 := by omega
  unfold Ws.grown
  rw [if_pos q, e, List.flatten_replicate_singleton]
  simp [nats]
theorem len_count (w : World) {t : Str} {a dx : Addr} {cs : List Nat} {b m : Nat} {p p' pos : Pos} (hl : (Ws.counts cs).length ≤ 2000) :
    Ev (Gd w) 0 fd_init.scope (nmG t a dx cs b m (Ws.counts cs)) (.Call (.Name "len" p) [.Name "count" p'] [] pos) (.int (Ws.counts cs).length) := by
  have := Ev.lenW (P := Gd w) (k := 0) (sc := fd_init.scope) (n := nmG t a dx cs b m (Ws.counts cs)) (xs := nats (Ws.counts cs)) (x := "len") (p := p) (pos := pos) (e := .Name "count" p') rfl (glb_len w) rfl (EvW.own rfl rfl rfl rfl) (small_of (by rw [nats_len]; omega)) (fun _ => rfl)
  rw [nats_len] at this
  exact this

theorem turn_ok (w : World) (t : Str) (a dx : Addr) (c : (List Nat × Nat) × Nat) (x : Nat) (hx : x = 32 ∨ x = 9) (hl : (Ws.counts c.1.1).length ≤ 2000) (hb : c.1.2 ≤ 1000) :
    Ex (Gd w) 0 fd_init.scope (nmI t a dx c (.str ⟨#[x]⟩)) ((aFor2 (stAt bd_init 4))) (.next (nmI t a dx (chStep c (.str ⟨#[x]⟩)) (.str ⟨#[x]⟩))) := by
  obtain ⟨⟨cs, b⟩, m⟩ := c
  rcases hx with rfl | rfl
  · refine Ex.cons (Ex1.ifT (Tv.cmp (Ev.name rfl rfl rfl rfl) (Ev.name rfl rfl rfl rfl) cmp_bb rfl) ?_) Ex.nil
    refine Ex.cons (Ex1.assign (d := .int (m + 1 : Nat)) (inc (Ev.name rfl rfl rfl rfl)) rfl (fun _ => rfl)) ?_
    refine Ex.cons (Ex1.assign (d := .int (b + 1 : Nat)) (inc (Ev.name rfl rfl rfl rfl)) rfl (fun _ => rfl)) ?_
    exact Ex.nil
  · refine Ex.cons (Ex1.ifF (Tv.cmp (Ev.name rfl rfl rfl rfl) (Ev.name rfl rfl rfl rfl) cmp_tb rfl) ?_) Ex.nil
    refine Ex.cons (Ex1.ifT (Tv.cmp (Ev.name rfl rfl rfl rfl) (Ev.name rfl rfl rfl rfl) cmp_tt rfl) ?_) Ex.nil
    refine Ex.cons (Ex1.assign (d := .int (m + 1 : Nat)) (inc (Ev.name rfl rfl rfl rfl)) rfl (fun _ => rfl)) ?_
    refine Ex.cons (Ex1.assign (d := .int (cs.length + 1 : Nat)) (inc (Ev.name rfl rfl rfl rfl)) rfl (fun _ => rfl)) ?_
    have room : (Ws.grown cs b).length ≤ 3010 := by rw [Ws.grown_length]; simp at hl hb; omega
    have hbl : b < (Ws.grown cs b).length := by rw [Ws.grown_length]; omega
    have tail : Ex (Gd w) 0 fd_init.scope (nmG t a dx cs b m (Ws.grown cs b)) ([(stAt (aIf1 (stAt (aIf2 (stAt (aFor2 (stAt bd_init 4)) 0)) 0)) 3), (stAt (aIf1 (stAt (aIf2 (stAt (aFor2 (stAt bd_init 4)) 0)) 0)) 4)]) (.next (nmI t a dx (chStep ((cs, b), m) (.str ⟨#[9]⟩)) (.str ⟨#[9]⟩))) := by
      refine Ex.cons (Ex1.setItem (xs := nats (Ws.grown cs b)) (i := b) (d := .int (cs.count b + 1 : Nat)) rfl rfl ?_ (Ev.name rfl rfl rfl rfl) (by omega) (by rw [nats_len]; omega) (small_of (by rw [nats_len]; omega)) rfl rfl (fun _ => rfl)) ?_
      · refine inc (m := cs.count b) (Ev.at (j := b) (EvW.own rfl rfl rfl rfl) (Ev.name rfl rfl rfl rfl) (by omega) (by simp at hb; omega) ?_)
        rw [Int.toNat_natCast, nats_get _ _ hbl, Ws.grown_getD]
      · refine Ex.cons (Ex1.assign (d := .int (0 : Nat)) (Ev.int _ _ _) rfl (fun _ => rfl)) ?_
        have e : (nats (Ws.grown cs b)).set b (.int (cs.count b + 1 : Nat)) = nats (Ws.counts (cs ++ [b])) := by rw [Ws.counts_snoc, nats_set]
        have e2 : ((cs ++ [b]).length : Int) = (cs.length + 1 : Nat) := by simp
        unfold nmI chStep Ws.cellStep
        simp only [show (⟨#[9]⟩ : Str).cps.getD 0 0 = 9 from rfl, if_true]
        rw [e2, ← e]
        exact Ex.nil
    by_cases q : (Ws.counts cs).length ≤ b
    · refine Ex.cons (n₁ := nmG t a dx cs b m (Ws.grown cs b)) (Ex1.ifT (Tv.ge (a := b) (b := (Ws.counts cs).length) (Ev.name rfl rfl rfl rfl) (len_count w (by simpa using hl)) (decide_eq_true (by omega)) rfl) ?_) tail
      refine Ex.cons (n₁ := nmG t a dx cs b m (Ws.grown cs b)) (Ex1.assignOwn (xs := nats (Ws.grown cs b)) ?_ rfl (fun _ => rfl)) Ex.nil
      rw [← grown_eq q]
      have hr := Ws.grown_length cs b
      refine EvF.add (xs := nats (Ws.counts cs)) (EvW.own rfl rfl rfl rfl) (EvW.mul (xs := [.int 0]) (i := (b : Int) - ((Ws.counts cs).length : Int) + 1) (Ev.list (Evs.cons (Ev.int _ _ _) Evs.nil (fun _ => rfl)) rfl).w (Ev.addI (Ev.subI (Ev.name rfl rfl rfl rfl) (len_count w (by simpa using hl))) (Ev.int _ _ _)) (small_of (by simp at hb ⊢; omega)) (smallI_of (by simp at hb; omega)) rfl) (small_of ?_)
      rw [List.flatten_replicate_singleton, List.length_replicate, nats_len]
      simp at hl hb
      omega
    · refine Ex.cons (n₁ := nmG t a dx cs b m (Ws.grown cs b)) ?_ tail
      have e : Ws.grown cs b = Ws.counts cs := by unfold Ws.grown; rw [if_neg q]
      rw [e]
      exact Ex1.ifF (Tv.ge (a := b) (b := (Ws.counts cs).length) (Ev.name rfl rfl rfl rfl) (len_count w (by simpa using hl)) (decide_eq_false (by omega)) rfl) Ex.nil

theorem mx_le {cs : List Nat} {k : Nat} (h : ∀ c ∈ cs, c ≤ k) : Ws.mx cs ≤ k := by
  induction cs with
  | nil => exact Nat.zero_le _
  | cons c cs ih => exact Nat.max_le.mpr ⟨h c (.head _), ih fun d hd => h d (.tail _ hd)⟩

theorem counts_le {cs : List Nat} {k : Nat} (h : ∀ c ∈ cs, c ≤ k) : (Ws.counts cs).length ≤ k + 1 := by
  rw [Ws.counts_length]
  split
  · omega
  · have := mx_le h; omega
theorem fold_signs : ∀ (l : List Nat) (c : List Nat × Nat) (m : Nat), (l.map fun x => PV.str ⟨#[x]⟩).foldl chStep (c, m) = (l.foldl Ws.cellStep c, m + l.length)
  | [], c, m => rfl
  | x :: l, c, m => by
    rw [List.map_cons, List.foldl_cons, List.foldl_cons]
    have : chStep (c, m) (.str ⟨#[x]⟩) = (Ws.cellStep c x, m + 1) := rfl
    rw [this, fold_signs l]
    simp [Nat.add_assoc, Nat.add_comm 1]
theorem tail_ok (w : World) (t : Str) (a dx : Addr) (cs : List Nat) (b m : Nat) (ρ : Rho) (h1 : ρ.lookup ("b" : Str) = some (PV.int b)) (h2 : ρ.lookup ("n" : Str) = some (PV.int m)) (h3 : ρ.lookup ("nt" : Str) = some (PV.int cs.length)) (hl : (Ws.counts cs).length ≤ 2000) :
    Ex (Gd w) 1 fd_init.scope ⟨ρ, some ("count", nats (Ws.counts cs)), some ("self", a, dx, [("raw", .str t)])⟩ ([(stAt bd_init 5), (stAt bd_init 6), (stAt bd_init 7), (stAt bd_init 8)])
      (.next ⟨ρ, some ("count", nats (Ws.counts cs)), some ("self", a, dx, [("raw", .str t), ("n", .int m), ("nt", .int cs.length), ("norm", .tup [.tup (nats (Ws.counts cs)), .int b]), ("is_simple", .bool (decide (((Ws.counts cs).length : Int) ≤ 1)))])⟩) := by
  refine Ex.cons (Ex1.setMe (kls w) (no_sa w.params) rfl rfl rfl (Ev.name rfl h2 rfl rfl) (mN_n w.params) oB_n rfl rfl rfl (fun _ => rfl)) ?_
  refine Ex.cons (Ex1.setMe (kls w) (no_sa w.params) rfl rfl rfl (Ev.name rfl h3 rfl rfl) (mN_nt w.params) oB_nt rfl rfl rfl (fun _ => rfl)) ?_
  refine Ex.cons (Ex1.setMe (kls w) (no_sa w.params) rfl rfl rfl (Ev.tup (Evs.cons (Ev.tupleOf (xs := nats (Ws.counts cs)) rfl (glb_tuple w) rfl (EvW.own rfl rfl rfl rfl) (small_of (by rw [nats_len]; omega)) (fun _ => rfl)) (Evs.cons (Ev.name rfl h1 rfl rfl) Evs.nil (fun _ => rfl)) (fun _ => rfl)) rfl) (mN_norm w.params) oB_norm rfl rfl rfl (fun _ => rfl)) ?_
  have len : ∀ {fs : List (Str × PV)} {p p' pos : Pos}, Ev (Gd w) 1 fd_init.scope ⟨ρ, some ("count", nats (Ws.counts cs)), some ("self", a, dx, fs)⟩ (.Call (.Name "len" p) [.Name "count" p'] [] pos) (.int (Ws.counts cs).length) := fun {fs p p' pos} => by
    have := Ev.lenW (P := Gd w) (k := 1) (sc := fd_init.scope) (n := ⟨ρ, some ("count", nats (Ws.counts cs)), some ("self", a, dx, fs)⟩) (xs := nats (Ws.counts cs)) (x := "len") (p := p) (pos := pos) (e := .Name "count" p') rfl (glb_len w) rfl (EvW.own rfl rfl rfl rfl) (small_of (by rw [nats_len]; omega)) (fun _ => rfl)
    rw [nats_len] at this
    exact this
  exact Ex.cons (Ex1.setMe (kls w) (no_sa w.params) rfl rfl rfl (Ev.cmp len (Ev.int _ _ _) rfl rfl) (mN_is w.params) oB_is rfl rfl rfl (fun _ => rfl)) Ex.nil
structure InvI (c : (List Nat × Nat) × Nat) (ds : List PV) : Prop where
  len : c.2 + ds.length ≤ 900
  b : c.1.2 ≤ c.2
  cs : ∀ x ∈ c.1.1, x ≤ c.2
  ds : ∀ d ∈ ds, ∃ x, d = PV.str ⟨#[x]⟩ ∧ (x = 32 ∨ x = 9)
theorem InvI.step {c : (List Nat × Nat) × Nat} {d : PV} {ds : List PV} (h : InvI c (d :: ds)) : InvI (chStep c d) ds := by
  obtain ⟨⟨cs, b⟩, m⟩ := c
  obtain ⟨x, rfl, hx⟩ := h.ds d (.head _)
  have e : chStep ((cs, b), m) (.str ⟨#[x]⟩) = (Ws.cellStep (cs, b) x, m + 1) := rfl
  have h1 := h.len
  have h2 := h.b
  have h3 := h.cs
  simp only [List.length_cons] at h1 h2 h3
  rw [e]
  refine ⟨by simp only; omega, ?_, ?_, fun d hd => h.ds d (.tail _ hd)⟩
  · rcases hx with rfl | rfl
    · simp [Ws.cellStep]; omega
    · simp [Ws.cellStep]
  · intro y hy
    rcases hx with rfl | rfl
    · have := h3 y (by simpa [Ws.cellStep] using hy); simp only; omega
    · simp only [Ws.cellStep, if_true, List.mem_append, List.mem_singleton] at hy
      rcases hy with hy | hy
      · have := h3 y hy; simp only; omega
      · simp only; omega
/-- Whitespace(text) -/
theorem new_ok (w : World) (t : Str) (ht : ∀ c ∈ t.cps.toList, c = 32 ∨ c = 9) (hz : t.length ≤ 900) : Cal (Gd w) 3 (.ref ad_cls) [.str t] (wsPV t (Ws.cellsOf t.cps.toList).1 (Ws.cellsOf t.cps.toList).2) := by
  refine Cal.new (k := 1) (kls w) (mN_init w.params) (fun o ho => by have := (at_init w.params).symm.trans ho; cases this; rfl) (fn_init w) rfl fun a dx => ?_
  have hlen : t.cps.toList.length = t.length := Array.length_toList
  have inv : InvI (([], 0), 0) (Mine.signs t) := ⟨by simp only [Mine.signs, List.length_map]; omega, Nat.zero_le _, (fun x hx => nomatch hx), fun d hd => by
    obtain ⟨x, hx, rfl⟩ := List.mem_map.mp hd
    exact ⟨x, rfl, ht x hx⟩⟩
  have hl := Lp.from (P := Gd w) (k := 1) (sc := fd_init.scope) (t := (aFor0 (stAt bd_init 4)))
    (n₀ := ⟨[("ws", .str t), ("T", .str "\t"), ("S", .str " "), ("b", .int 0), ("n", .int 0), ("nt", .int 0)], some ("count", []), some ("self", a, dx, [("raw", .str t)])⟩) (s₀ := (([], 0), 0)) (f := chStep) (ds := Mine.signs t) (N := nmI t a dx) (I := InvI)
    (body := (aFor2 (stAt bd_init 4))) (fun _ _ _ => rfl) (fun _ _ _ _ _ => rfl) (fun c d ds h => ⟨by
      obtain ⟨x, rfl, hx⟩ := h.ds d (.head _)
      have h1 := h.len
      simp only [List.length_cons] at h1
      exact (turn_ok w t a dx c x hx (by have := counts_le h.cs; omega) (by have := h.b; omega)).le (Nat.zero_le _), h.step⟩) inv
  obtain ⟨n', h1, h2⟩ := hl
  have fin : ∃ ρ, n' = ⟨ρ, some ("count", nats (Ws.counts (Ws.cellsOf t.cps.toList).1)), some ("self", a, dx, [("raw", .str t)])⟩ ∧ ρ.lookup ("b" : Str) = some (PV.int ((Ws.cellsOf t.cps.toList).2 : Nat)) ∧ ρ.lookup ("n" : Str) = some (PV.int (t.length : Nat)) ∧ ρ.lookup ("nt" : Str) = some (PV.int ((Ws.cellsOf t.cps.toList).1.length : Nat)) := by
    rcases h2 with ⟨e, rfl⟩ | ⟨e, rfl⟩
    · have e' : t.cps.toList = [] := by simpa [Mine.signs] using e
      have e2 : t.length = 0 := by rw [← hlen, e']; rfl
      rw [e', e2]
      exact ⟨_, rfl, rfl, rfl, rfl⟩
    · have := fold_signs t.cps.toList ([], 0) 0
      rw [Nat.zero_add, hlen] at this
      unfold Mine.signs
      rw [this]
      exact ⟨_, rfl, rfl, rfl, rfl⟩
  obtain ⟨ρ, rfl, hb, hn, hnt⟩ := fin
  have hcl : (Ws.counts (Ws.cellsOf t.cps.toList).1).length ≤ 2000 := by
    have key : ∀ (ds : List PV) (c : (List Nat × Nat) × Nat), InvI c ds → InvI (ds.foldl chStep c) [] := fun ds => by
      induction ds with
      | nil => intro c h; exact h
      | cons d ds ih => intro c h; exact ih _ h.step
    have := key _ _ inv
    have e := fold_signs t.cps.toList ([], 0) 0
    unfold Mine.signs at this
    rw [e] at this
    have h1 := counts_le this.cs
    have h2 := this.len
    simp only at h1 h2
    unfold Ws.cellsOf
    omega
  refine ⟨ρ, some ("count", nats (Ws.counts (Ws.cellsOf t.cps.toList).1)), Ex.cons (Ex1.setMe (kls w) (no_sa w.params) rfl rfl rfl (Ev.name rfl rfl rfl rfl) (mN_raw w.params) oB_raw rfl rfl rfl (fun _ => rfl)) ?_⟩
  refine Ex.cons (Ex1.swap2 (Ev.tup (Evs.cons (Ev.cattr (frag_in w.params) (reads w.params) (cls_S w.params) rfl (glb_W w) rfl (fun _ => rfl)) (Evs.cons (Ev.cattr (frag_in w.params) (reads w.params) (cls_T w.params) rfl (glb_W w) rfl (fun _ => rfl)) Evs.nil (fun _ => rfl)) (fun _ => rfl)) rfl) rfl rfl (fun _ => rfl) (fun env he => by
    obtain ⟨scope, l, g, cells, q, f, c, fr, bn⟩ := env
    subst he
    rfl)) ?_
  refine Ex.cons (Ex1.assignOwn EvF.nil rfl (fun _ => rfl)) ?_
  refine Ex.cons (Ex1.assign3 (Ev.int _ _ _) rfl rfl rfl (fun _ => rfl) (fun _ => rfl)) ?_
  refine Ex.cons (Ex1.for (Src.str (Ev.attrMe (kls w) rfl rfl rfl (mN_raw w.params) oB_raw rfl rfl (fun _ => rfl))) h1 (fun _ _ => rfl)) ?_
  exact tail_ok w t a dx _ _ _ ρ hb hn hnt hcl
end L02

end
noncomputable section
open PySem PySem.W PyProof.Rows PySem.Calls Mine
set_option Elab.async false
set_option linter.unusedVariables false
set_option maxRecDepth 100000
namespace L02
theorem mN_longest (P : Params) : mN P "longest_run_of_spaces" = some (.ref ad_longest_run_of_spaces) := by kernel_rfl
theorem mN_indent (P : Params) : mN P "indent_level" = some (.ref ad_indent_level) := by kernel_rfl
theorem mN_new (P : Params) : mN P "not_equal_witness" = some (.ref ad_not_equal_witness) := by kernel_rfl
theorem mN_equal (P : Params) : mN P "equal" = some (.ref ad_equal) := by kernel_rfl
theorem oB_longest : typeLookup (.type "object") "longest_run_of_spaces" = pure none := by rw [typeLookup_type, builtinLookup_eq_fast]; kernel_rfl
theorem oB_indent : typeLookup (.type "object") "indent_level" = pure none := by rw [typeLookup_type, builtinLookup_eq_fast]; kernel_rfl
theorem oB_new : typeLookup (.type "object") "not_equal_witness" = pure none := by rw [typeLookup_type, builtinLookup_eq_fast]; kernel_rfl
theorem oB_equal : typeLookup (.type "object") "equal" = pure none := by rw [typeLookup_type, builtinLookup_eq_fast]; kernel_rfl

theorem longest_eq (cs : List Nat) (b : Nat) : max (((Ws.counts cs).length : Int) - 1) (b : Int) = (Ws.widest cs b : Nat) := by
  unfold Ws.widest
  by_cases e : cs = []
  · subst e; simp [Ws.counts, Ws.mx]; omega
  · rw [Ws.mx_counts e]; omega
theorem longest_ok (w : World) (t : Str) (cs : List Nat) (b : Nat) (hl : (Ws.counts cs).length ≤ 2000) : Cal (Gd w) 1 (.ref ad_longest_run_of_spaces) [wsPV t cs b] (.int (Ws.widest cs b : Nat)) := by
  refine Cal.fn (k := 0) (fn_longest_run_of_spaces w) rfl ?_
  refine Ex.cons (Ex1.assignT (Ev.attr (kls w) (Ev.name rfl rfl rfl rfl) rfl (mN_norm w.params) oB_norm (fun _ => rfl)) rfl (fun _ => rfl) (fun _ => rfl) (fun _ => rfl)) ?_
  rw [← longest_eq]
  refine Ex.ret (Ex1.ret (Ev.callB rfl (glb_max w) rfl (Evs.cons (Ev.subI ?_ (Ev.int _ _ _)) (Evs.cons (Ev.name rfl rfl rfl rfl) Evs.nil (fun _ => rfl)) (fun _ => rfl)) Cal.max2 (fun _ => rfl) (fun _ _ => rfl)))
  rw [← nats_len (Ws.counts cs)]
  exact Ev.callB rfl (glb_len w) rfl (Evs.cons (Ev.name rfl rfl rfl rfl) Evs.nil (fun _ => rfl)) (Cal.lenT (small_of (by rw [nats_len]; omega))) (fun _ => rfl) (fun _ _ => rfl)

def ilStep (ts : Nat) (cs : List Nat) (il : Nat) : PV → Nat
  | .int i => il + i.toNat / ts * cs.count i.toNat
  | _ => il
theorem fdiv_nat (a b : Nat) : Int.fdiv (a : Int) (b : Int) = ((a / b : Nat) : Int) := by
  rw [Int.fdiv_eq_ediv_of_nonneg _ (by omega)]; rfl
theorem nums_eq (a b : Nat) : Mine.numsOf (a : Int) (b : Int) = ((List.range (b - a)).map fun j => a + j).map fun (i : Nat) => PV.int (i : Int) := by
  unfold Mine.numsOf
  have : ((b : Int) - (a : Int)).toNat = b - a := by omega
  rw [this, List.map_map]
  refine List.map_congr_left fun j _ => ?_
  simp
theorem il_fold (ts : Nat) (cs : List Nat) : ∀ (l : List Nat) (a : Nat), (l.map fun (i : Nat) => PV.int (i : Int)).foldl (ilStep ts cs) a = l.foldl (fun il i => il + i / ts * cs.count i) a
  | [], a => rfl
  | i :: l, a => by
    rw [List.map_cons, List.foldl_cons, List.foldl_cons]
    have : ilStep ts cs a (.int (i : Int)) = a + i / ts * cs.count i := by simp [ilStep]
    rw [this]; exact il_fold ts cs l _
theorem indent_ok (w : World) (t : Str) (cs : List Nat) (b ts : Nat) (h0 : 1 ≤ ts) (hts : ts ≤ 5000) (hl : (Ws.counts cs).length ≤ 2000) : Cal (Gd w) 1 (.ref ad_indent_level) [wsPV t cs b, .int ts] (.int (Ws.level ts cs b : Nat)) := by
  refine Cal.fn (k := 0) (fn_indent_level w) rfl ?_
  refine Ex.cons (Ex1.assignT (Ev.attr (kls w) (Ev.name rfl rfl rfl rfl) rfl (mN_norm w.params) oB_norm (fun _ => rfl)) rfl (fun _ => rfl) (fun _ => rfl) (fun _ => rfl)) ?_
  refine Ex.cons (Ex1.assign (d := .int (0 : Nat)) (Ev.int _ _ _) rfl (fun _ => rfl)) ?_
  have hlp := Lp.from (P := Gd w) (k := 0) (sc := fd_indent_level.scope) (t := (aFor0 (stAt bd_indent_level 2)))
    (n₀ := ⟨[("self", wsPV t cs b), ("tabsize", .int ts), ("count", .tup (nats (Ws.counts cs))), ("trailing", .int b), ("il", .int (0 : Nat))], none, none⟩) (s₀ := (0 : Nat)) (f := ilStep ts cs) (ds := Mine.numsOf (ts : Int) ((Ws.counts cs).length : Int))
    (N := fun il e => ⟨[("self", wsPV t cs b), ("tabsize", .int ts), ("count", .tup (nats (Ws.counts cs))), ("trailing", .int b), ("il", .int (il : Nat)), ("i", e)], none, none⟩) (I := fun _ ds => ∀ d ∈ ds, ∃ i : Nat, d = .int i ∧ i < (Ws.counts cs).length)
    (body := (aFor2 (stAt bd_indent_level 2))) (fun _ _ _ => rfl) (fun _ _ _ _ _ => rfl) (fun il d ds h => ?_) (fun d hd => ?_)
  · obtain ⟨n', h1, h2⟩ := hlp
    refine Ex.cons (Ex1.for (Src.range2 rfl (glb_range w) rfl (Evs.cons (Ev.name rfl rfl rfl rfl) (Evs.cons (d := .int (Ws.counts cs).length) ?_ Evs.nil (fun _ => rfl)) (fun _ => rfl)) (smallI_of (by omega)) (smallI_of (by omega)) (fun _ => rfl) (fun _ _ => rfl)) h1 (fun _ _ => rfl)) ?_
    · rw [← nats_len (Ws.counts cs)]
      exact Ev.callB rfl (glb_len w) rfl (Evs.cons (Ev.name rfl rfl rfl rfl) Evs.nil (fun _ => rfl)) (Cal.lenT (small_of (by rw [nats_len]; omega))) (fun _ => rfl) (fun _ _ => rfl)
    · have fin : ∀ n : Nm, n.ρ.lookup ("self" : Str) = some (wsPV t cs b) → n.ρ.lookup ("tabsize" : Str) = some (.int ts) → n.ρ.lookup ("trailing" : Str) = some (.int b) → n.ρ.lookup ("il" : Str) = some (.int (Ws.stops ts cs : Nat)) →
          Ex (Gd w) 0 fd_indent_level.scope n ([(stAt bd_indent_level 3)]) (.ret (.int (Ws.level ts cs b : Nat))) := fun n q1 q2 q3 q4 => by
        have e : ((Ws.level ts cs b : Nat) : Int) = (b : Int) + (ts : Int) * ((Ws.stops ts cs : Nat) + (cs.length : Nat)) := by unfold Ws.level; simp
        rw [e]
        exact Ex.ret (Ex1.ret (Ev.addI (Ev.name rfl q3 rfl rfl) (Ev.mulI (Ev.name rfl q2 rfl rfl) (Ev.addI (Ev.name rfl q4 rfl rfl) (Ev.attr (kls w) (Ev.name rfl q1 rfl rfl) rfl (mN_nt w.params) oB_nt (fun _ => rfl))) (by omega))))
      have hst : (Mine.numsOf (ts : Int) ((Ws.counts cs).length : Int)).foldl (ilStep ts cs) 0 = Ws.stops ts cs := by rw [nums_eq, il_fold, Ws.level_fold]
      rcases h2 with ⟨e, rfl⟩ | ⟨e, rfl⟩
      · refine fin _ rfl rfl rfl ?_
        rw [← hst, e]; rfl
      · refine fin _ rfl rfl rfl ?_
        rw [← hst]; rfl
  · obtain ⟨i, rfl, hi⟩ := h d (.head _)
    refine ⟨Ex.cons (Ex1.assign (d := .int (ilStep ts cs il (.int i) : Nat)) ?_ rfl (fun _ => rfl)) Ex.nil, fun d hd => h d (.tail _ hd)⟩
    have e : ((ilStep ts cs il (.int i) : Nat) : Int) = (il : Int) + Int.fdiv (i : Int) (ts : Int) * ((cs.count i : Nat) : Int) := by rw [fdiv_nat]; simp [ilStep]
    rw [e]
    refine Ev.addI (Ev.name rfl rfl rfl rfl) (Ev.mulI (Ev.divI (Ev.name rfl rfl rfl rfl) (Ev.name rfl rfl rfl rfl) (by omega) (by omega)) (Ev.atT (Ev.name rfl rfl rfl rfl) (Ev.name rfl rfl rfl rfl) (by omega) (by omega) ?_) ?_)
    · rw [Int.toNat_natCast, nats_get _ _ hi, Ws.counts_getD]
    · rw [fdiv_nat]
      have := Nat.div_le_self i ts
      rw [Int.natAbs_natCast]
      omega
  · rw [nums_eq] at hd
    obtain ⟨i, hi, rfl⟩ := List.mem_map.mp hd
    obtain ⟨j, hj, rfl⟩ := List.mem_map.mp hi
    have := List.mem_range.mp hj
    exact ⟨_, rfl, by omega⟩

/-- the sizes at which two indents part -/
def row3 (cs ds : List Nat) (b e ts : Nat) : PV := .tup [.int ts, .int (Ws.level ts cs b : Nat), .int (Ws.level ts ds e : Nat)]
def most (cs ds : List Nat) (b e : Nat) : Nat := max (Ws.widest cs b) (Ws.widest ds e) + 1
def sizes (m : Nat) : List Nat := (List.range m).map (1 + ·)
def parts (p : Nat → Nat → Bool) (cs ds : List Nat) (b e : Nat) (l : List Nat) : List PV := (l.filter fun ts => p (Ws.level ts cs b) (Ws.level ts ds e)).map (row3 cs ds b e)
def wStep (p : Nat → Nat → Bool) (cs ds : List Nat) (b e : Nat) (xs : List PV) : PV → List PV
  | .int i => xs ++ parts p cs ds b e [i.toNat]
  | _ => xs
theorem nums1 (m : Nat) : Mine.numsOf 1 ((m : Int) + 1) = (sizes m).map fun (i : Nat) => PV.int (i : Int) := by
  have := nums_eq 1 (m + 1)
  rw [Nat.add_sub_cancel] at this
  unfold sizes
  simpa using this
theorem w_fold (p : Nat → Nat → Bool) (cs ds : List Nat) (b e : Nat) : ∀ (l : List Nat) (xs : List PV), (l.map fun (i : Nat) => PV.int (i : Int)).foldl (wStep p cs ds b e) xs = xs ++ parts p cs ds b e l
  | [], xs => by simp [parts]
  | i :: l, xs => by
    rw [List.map_cons, List.foldl_cons, w_fold p cs ds b e l]
    have : wStep p cs ds b e xs (.int (i : Int)) = xs ++ parts p cs ds b e [i] := by simp [wStep]
    rw [this, List.append_assoc]
    congr 1
    unfold parts
    rw [← List.map_append, ← List.filter_append]
    rfl
theorem parts_len (p : Nat → Nat → Bool) (cs ds : List Nat) (b e : Nat) (l : List Nat) : (parts p cs ds b e l).length ≤ l.length := by
  unfold parts; rw [List.length_map]; exact List.length_filter_le _ _
structure Small (cs : List Nat) (b : Nat) : Prop where
  len : (Ws.counts cs).length ≤ 1000
  b : b ≤ 1000
theorem Small.wide {cs : List Nat} {b : Nat} (h : Small cs b) : Ws.widest cs b ≤ 1000 := by
  have h1 := h.len
  have h2 := h.b
  unfold Ws.widest
  by_cases e : cs = []
  · subst e; simp [Ws.mx]; exact h2
  · rw [Ws.mx_counts e] at h1; omega
theorem eqInt (a b : Int) : eqPV (.int a) (.int b) = some (a == b) := by simp only [eqPV, pyd, pyd0, PyData.eqv]
theorem neNat (a b : Nat) : cmpPV .NotEq (.int a) (.int b) = some (a != b) := by
  show (match eqPV (.int a) (.int b) with | some r => some (!r) | none => none) = _
  rw [eqInt]
  by_cases q : a = b
  · subst q; simp
  · have h1 : ((a : Int) == (b : Int)) = false := beq_false_of_ne (by omega)
    have h2 : (a != b) = true := by simpa using q
    rw [h1, h2]; rfl

theorem not_equal_witness_ok (w : World) (t u : Str) (cs ds : List Nat) (b e : Nat) (h1 : Small cs b) (h2 : Small ds e) : Cal (Gd w) 3 (.ref ad_not_equal_witness) [wsPV t cs b, wsPV u ds e] (.list (parts (fun a b => a != b) cs ds b e (sizes (most cs ds b e)))) := by
  refine Cal.fn (k := 2) (fn_not_equal_witness w) rfl ?_
  have hm : most cs ds b e ≤ 1001 := by have := h1.wide; have := h2.wide; unfold most; omega
  have hl1 := h1.len
  have hl2 := h2.len
  refine Ex.cons (Ex1.assign (d := .int (most cs ds b e : Nat)) ?_ rfl (fun _ => rfl)) ?_
  · have e1 : ((most cs ds b e : Nat) : Int) = max ((Ws.widest cs b : Nat) : Int) ((Ws.widest ds e : Nat) : Int) + 1 := by unfold most; omega
    rw [e1]
    refine Ev.addI (Ev.callB rfl (glb_max w) rfl (Evs.cons ?_ (Evs.cons ?_ Evs.nil (fun _ => rfl)) (fun _ => rfl)) Cal.max2 (fun _ => rfl) (fun _ _ => rfl)) (Ev.int _ _ _)
    · exact Ev.meth0 (kls w) (Ev.name rfl rfl rfl rfl) (mN_longest w.params) (at_longest_run_of_spaces w.params) rfl rfl rfl oB_longest ((longest_ok w t cs b (by omega)).le (by omega)) (fun _ => ⟨_, rfl⟩)
    · exact Ev.meth0 (kls w) (Ev.name rfl rfl rfl rfl) (mN_longest w.params) (at_longest_run_of_spaces w.params) rfl rfl rfl oB_longest ((longest_ok w u ds e (by omega)).le (by omega)) (fun _ => ⟨_, rfl⟩)
  refine Ex.cons (Ex1.assignOwn EvF.nil rfl (fun _ => rfl)) ?_
  have hlp := Lp.from (P := Gd w) (k := 2) (sc := fd_not_equal_witness.scope) (t := (aFor0 (stAt bd_not_equal_witness 2))) (n₀ := ⟨[("self", wsPV t cs b), ("other", wsPV u ds e), ("n", .int (most cs ds b e : Nat))], some ("a", []), none⟩) (s₀ := ([] : List PV)) (f := wStep (fun a b => a != b) cs ds b e) (ds := (sizes (most cs ds b e)).map fun (i : Nat) => PV.int (i : Int))
    (N := fun xs d => ⟨[("self", wsPV t cs b), ("other", wsPV u ds e), ("n", .int (most cs ds b e : Nat)), ("ts", d)], some ("a", xs), none⟩) (I := fun xs ds => xs.length + ds.length ≤ 1001 ∧ ∀ d ∈ ds, ∃ i : Nat, d = .int i ∧ 1 ≤ i ∧ i ≤ 2000)
    (body := (aFor2 (stAt bd_not_equal_witness 2))) (fun _ _ _ => rfl) (fun _ _ _ _ _ => rfl) (fun xs d ds' h => ?_) ⟨?_, fun d hd => ?_⟩
  · obtain ⟨n', q1, q2⟩ := hlp
    rw [← nums1] at q1
    refine Ex.cons (Ex1.for (Src.range2 rfl (glb_range w) rfl (Evs.cons (Ev.int _ _ _) (Evs.cons (Ev.addI (Ev.name rfl rfl rfl rfl) (Ev.int _ _ _)) Evs.nil (fun _ => rfl)) (fun _ => rfl)) rfl (smallI_of (by omega)) (fun _ => rfl) (fun _ _ => rfl)) q1 (fun _ _ => rfl)) ?_
    have e1 := w_fold (fun a b => a != b) cs ds b e (sizes (most cs ds b e)) []
    rw [List.nil_append] at e1
    rcases q2 with ⟨q, rfl⟩ | ⟨_, rfl⟩
    · have : sizes (most cs ds b e) = [] := by simpa using q
      rw [this]
      exact Ex.ret (Ex1.retOwn rfl rfl rfl rfl)
    · rw [← e1]
      exact Ex.ret (Ex1.retOwn rfl rfl rfl rfl)
  · obtain ⟨hl, hi⟩ := h
    obtain ⟨i, rfl, q1, q2⟩ := hi d (.head _)
    rw [List.length_cons] at hl
    have e2 : wStep (fun a b => a != b) cs ds b e xs (.int (i : Int)) = xs ++ parts (fun a b => a != b) cs ds b e [i] := by simp [wStep]
    refine ⟨?_, ?_, fun d hd => hi d (.tail _ hd)⟩
    · rw [e2]
      have c1 := (indent_ok w t cs b i q1 (by omega) (by omega)).le (show 1 ≤ 2 by decide)
      have c2 := (indent_ok w u ds e i q1 (by omega) (by omega)).le (show 1 ≤ 2 by decide)
      by_cases q : (fun a b => a != b) (Ws.level i cs b) (Ws.level i ds e) = true
      · have e3 : parts (fun a b => a != b) cs ds b e [i] = [row3 cs ds b e i] := by
          unfold parts
          rw [List.filter_cons_of_pos (by exact q)]; rfl
        rw [e3]
        refine Ex.cons (Ex1.ifT (Tv.cmp (Ev.meth (kls w) (Ev.name rfl rfl rfl rfl) (Evs.cons (Ev.name rfl rfl rfl rfl) Evs.nil (fun _ => rfl)) (mN_indent w.params) (at_indent_level w.params) rfl rfl rfl oB_indent c1 (fun _ => rfl) (fun _ => ⟨_, rfl⟩))
          (Ev.meth (kls w) (Ev.name rfl rfl rfl rfl) (Evs.cons (Ev.name rfl rfl rfl rfl) Evs.nil (fun _ => rfl)) (mN_indent w.params) (at_indent_level w.params) rfl rfl rfl oB_indent c2 (fun _ => rfl) (fun _ => ⟨_, rfl⟩)) ((neNat _ _).trans (congrArg some q)) rfl) (Ex.cons ?_ Ex.nil)) Ex.nil
        refine Ex1.append rfl rfl (Ev.tup (Evs.cons (Ev.name rfl rfl rfl rfl) (Evs.cons (Ev.meth (kls w) (Ev.name rfl rfl rfl rfl) (Evs.cons (Ev.name rfl rfl rfl rfl) Evs.nil (fun _ => rfl)) (mN_indent w.params) (at_indent_level w.params) rfl rfl rfl oB_indent c1 (fun _ => rfl) (fun _ => ⟨_, rfl⟩)) (Evs.cons
          (Ev.meth (kls w) (Ev.name rfl rfl rfl rfl) (Evs.cons (Ev.name rfl rfl rfl rfl) Evs.nil (fun _ => rfl)) (mN_indent w.params) (at_indent_level w.params) rfl rfl rfl oB_indent c2 (fun _ => rfl) (fun _ => ⟨_, rfl⟩)) Evs.nil (fun _ => rfl)) (fun _ => rfl)) (fun _ => rfl)) rfl) (small_of (by omega)) rfl rfl (fun _ => rfl) (fun env he => by unfold interactive; rw [he]; rfl) (fun _ => rfl) (fun _ => ⟨_, rfl⟩)
      · have e3 : parts (fun a b => a != b) cs ds b e [i] = [] := by
          unfold parts
          rw [List.filter_cons_of_neg (by exact q)]; rfl
        rw [e3, List.append_nil]
        exact Ex.cons (Ex1.ifF (Tv.cmp (Ev.meth (kls w) (Ev.name rfl rfl rfl rfl) (Evs.cons (Ev.name rfl rfl rfl rfl) Evs.nil (fun _ => rfl)) (mN_indent w.params) (at_indent_level w.params) rfl rfl rfl oB_indent c1 (fun _ => rfl) (fun _ => ⟨_, rfl⟩))
          (Ev.meth (kls w) (Ev.name rfl rfl rfl rfl) (Evs.cons (Ev.name rfl rfl rfl rfl) Evs.nil (fun _ => rfl)) (mN_indent w.params) (at_indent_level w.params) rfl rfl rfl oB_indent c2 (fun _ => rfl) (fun _ => ⟨_, rfl⟩)) ((neNat _ _).trans (congrArg some (by simpa using q))) rfl) Ex.nil) Ex.nil
    · rw [e2, List.length_append]
      have := parts_len (fun a b => a != b) cs ds b e [i]
      rw [List.length_singleton] at this
      omega
  · simp [sizes]; omega
  · obtain ⟨i, hi, rfl⟩ := List.mem_map.mp hd
    obtain ⟨j, hj, rfl⟩ := List.mem_map.mp hi
    have := List.mem_range.mp hj
    exact ⟨_, rfl, by omega, by omega⟩
end L02

end
noncomputable section
open PySem PySem.W PyProof.Rows PySem.Calls Mine
set_option Elab.async false
set_option linter.unusedVariables false
set_option maxRecDepth 100000
namespace L02
theorem mapO_ints {α : Type} (f : α → PV) (g : α → PyData) (n : Nat) (h : ∀ a, pyd n (f a) = some (g a)) : ∀ l : List α, mapO (pyd n) (l.map f) = some (l.map g)
  | [] => rfl
  | a :: l => by
    rw [List.map_cons, List.map_cons]
    simp only [mapO, h a, mapO_ints f g n h l]
theorem eqvAll_ints (f : Int → PyData) (hf : ∀ a b, PyData.eqv (f a) (f b) = (a == b)) : ∀ l m : List Int, PyData.eqvAll (l.map f) (m.map f) = decide (l = m)
  | [], [] => by simp [PyData.eqvAll]
  | [], _ :: _ => by simp [PyData.eqvAll]
  | _ :: _, [] => by simp [PyData.eqvAll]
  | a :: l, b :: m => by
    simp only [List.map_cons, PyData.eqvAll, hf, eqvAll_ints f hf l m]
    by_cases q : a = b
    · subst q; simp
    · have : (a == b) = false := beq_false_of_ne q
      simp [this, q]
theorem nats_map (l : List Nat) : nats l = (l.map fun (c : Nat) => (c : Int)).map PV.int := by simp [nats, Function.comp_def]
theorem cast_inj {l m : List Nat} : (l.map fun (c : Nat) => (c : Int)) = (m.map fun (c : Nat) => (c : Int)) ↔ l = m := by
  constructor
  · intro h
    have := congrArg (List.map Int.toNat) h
    simpa [List.map_map, Function.comp_def] using this
  · intro h; rw [h]
theorem eqNorm (l m : List Nat) (a c : Nat) : eqPV (.tup [.tup (nats l), .int a]) (.tup [.tup (nats m), .int c]) = some (decide (l = m ∧ a = c)) := by
  have e : ∀ (l : List Nat) (a : Nat), pyd 3 (.tup [.tup (nats l), .int a]) = some (.tuple [.tuple ((l.map fun (c : Nat) => (c : Int)).map PyData.int), .int a]) := fun l a => by
    have := mapO_ints PV.int PyData.int 1 (fun _ => rfl) (l.map fun (c : Nat) => (c : Int))
    rw [nats_map]
    simp only [pyd, mapO, this, pyd0]
  unfold eqPV
  rw [e, e]
  simp only [PyData.eqv, PyData.eqvAll, eqvAll_ints PyData.int (fun _ _ => rfl)]
  congr 1
  by_cases q1 : l = m
  · subst q1
    by_cases q2 : a = c
    · subst q2; simp
    · have : ((a : Int) == (c : Int)) = false := beq_false_of_ne (by omega)
      simp [q2, this]
  · have : ¬ (l.map fun (c : Nat) => (c : Int)) = (m.map fun (c : Nat) => (c : Int)) := fun h => q1 (cast_inj.mp h)
    simp [q1, this]
theorem equal_ok (w : World) (t u : Str) (cs ds : List Nat) (b e : Nat) : Cal (Gd w) 1 (.ref ad_equal) [wsPV t cs b, wsPV u ds e] (.bool (decide (Ws.counts cs = Ws.counts ds ∧ b = e))) := by
  refine Cal.fn (k := 0) (fn_equal w) rfl ?_
  exact Ex.ret (Ex1.ret (Ev.cmp (Ev.attr (kls w) (Ev.name rfl rfl rfl rfl) rfl (mN_norm w.params) oB_norm (fun _ => rfl)) (Ev.attr (kls w) (Ev.name rfl rfl rfl rfl) rfl (mN_norm w.params) oB_norm (fun _ => rfl)) (eqNorm _ _ _ _) rfl))
end L02

end
noncomputable section
open PySem PySem.W PyProof.Rows PySem.Calls Mine
set_option Elab.async false
set_option linter.unusedVariables false
set_option maxRecDepth 100000
namespace L02
noncomputable section
def b1 : List Int := [65024, 65025, 65026, 65027, 65028, 65029, 6150, 65030, 65031, 65032, 65033, 6155, 6156, 6157, 8203, 8204, 8205, 65034, 65035, 65036, 65037, 65038, 65039, 173, 847, 8288, 65279]
def b1es (P : Params) : List (Int × Value) := match (oB_95 P).data with | .set es _ _ => es.toList | _ => []
def b1ep (P : Params) : Nat := match (oB_95 P).data with | .set _ ep _ => ep | _ => 0
def b1t (P : Params) : SetTable := match (oB_95 P).data with | .set _ _ t => t | _ => .fresh 0 0 true
theorem b1_obj (P : Params) : oB_95 P = { cls := .type "set", dict := none, data := .set (b1es P).toArray (b1ep P) (b1t P) } := by kernel_rfl
theorem b1_elems (P : Params) : elemsOk (b1es P) b1 = true := by kernel_rfl
theorem b1_fits (P : Params) : (b1t P).fits (b1es P).length = true := by kernel_rfl
theorem b1_len (P : Params) : (b1es P).length = 27 := by kernel_rfl
theorem at_set (P : Params) : (hF P).get? 95 = some (oB_95 P) := (abs_get (by decide) (show (TF P).get 95 = some (oB_95 P) by kernel_rfl)).trans rfl
theorem b1_set (w : World) : (oB_95 w.params).SetObjOf (intKind (Gd w).prog (Gd w).w) (fun k => decide (k ∈ b1)) 27 := by
  rw [b1_obj, ← b1_len w.params]
  exact set_of (b1_elems w.params) (b1_fits w.params)
theorem glb_b1 (w : World) : Glb (Gd w) "b1_set" (.ref 95) := .inl (by kernel_rfl)
theorem glb_b3 (w : World) : Glb (Gd w) "b3_exceptions" (.ref 106) := .inl (by kernel_rfl)
theorem glb_ord' (w : World) : Glb (Gd w) "ord" (.builtin "ord") := .inr ⟨by kernel_rfl, by kernel_rfl⟩
def inB1 (c : Nat) : Bool := decide ((c : Int) ∈ b1)
theorem inb1_ok (w : World) (c : Nat) : Cal (Gd w) 1 (.ref ad_in_table_b1) [.str ⟨#[c]⟩] (.bool (inB1 c)) := by
  refine Cal.fn (k := 0) (fn_in_table_b1 w) rfl ?_
  exact Ex.ret (Ex1.ret (Ev.inSet (Ev.callB rfl (glb_ord' w) rfl (Evs.cons (Ev.name rfl rfl rfl rfl) Evs.nil (fun _ => rfl)) Cal.ord (fun _ => rfl) (fun _ _ => rfl)) rfl (glb_b1 w) rfl (at_set w.params) (b1_set w) (by decide) rfl))

def b3es : List DictEntry := yD.es
def pairsS : List (Int × Str) := pairs.filterMap fun p => match p.2 with | .s x => some (p.1, x) | .i _ => none
theorem b3_ok : entriesOk b3es pairsS = true := by kernel_rfl
theorem b3_asc : asc pairsS = true := by kernel_rfl
theorem at_dict (P : Params) : (hF P).get? 106 = some { cls := .type "dict", data := .dict b3es.toArray b3es.length } := (abs_get (by decide) (show (TF P).get 106 = some { cls := .type "dict", data := .dict b3es.toArray b3es.length } by kernel_rfl)).trans rfl
theorem b3_tab (w : World) : IntTab (Gd w).prog (Gd w).w (Gd w).hB 106 (pairsS.map fun p => (PyData.int p.1, PyData.str p.2)) := tab_of (at_dict w.params) (by decide) b3_ok b3_asc
def foldOf (c : Nat) : Str := (find pairsS c).getD (Txt.lower ⟨#[c]⟩)
theorem mapb3_ok (w : World) (c : Nat) (hfit : Builtin.Str.tooLong (Txt.lower ⟨#[c]⟩).length = false) : Cal (Gd w) 1 (.ref ad_map_table_b3) [.str ⟨#[c]⟩] (.str (foldOf c)) := by
  refine Cal.fn (k := 0) (fn_map_table_b3 w) rfl ?_
  refine Ex.cons (n₁ := ⟨[("code", .str ⟨#[c]⟩), ("r", optPV (find pairsS c))], none, none⟩) (Ex1.assign (Ev.dget (Ev.callB rfl (glb_ord' w) rfl (Evs.cons (Ev.name rfl rfl rfl rfl) Evs.nil (fun _ => rfl)) Cal.ord (fun _ => rfl) (fun _ _ => rfl)) rfl (glb_b3 w) rfl (b3_tab w) (fun _ => rfl) (fun _ => ⟨_, rfl⟩)) rfl (fun _ => rfl)) ?_
  unfold foldOf
  cases q : find pairsS c with
  | none => exact Ex.cons (Ex1.ifF (Tv.cmp (Ev.name rfl rfl rfl rfl) (Ev.none _ _) rfl rfl) Ex.nil) (Ex.ret (Ex1.ret (Ev.bmeth0 (Ev.name rfl rfl rfl rfl) PySem.F.plainAttrs_str PySem.F.slot_str_lower PySem.F.type_str_lower (.inl ⟨_, rfl, rfl⟩) (Cal.lower hfit) (fun _ => ⟨_, rfl⟩))))
  | some x => exact Ex.ret (Ex1.ifT (Tv.cmp (Ev.name rfl rfl rfl rfl) (Ev.none _ _) rfl rfl) (Ex.ret (Ex1.ret (Ev.name rfl rfl rfl rfl))))
end
end L02

end
noncomputable section
open PySem PySem.W PyProof.Rows PySem.Calls PyProof.V
set_option Elab.async false
set_option linter.unusedVariables false
namespace Mine

theorem sorted_unique : ∀ {l m : List Int}, l.Perm m → l.Pairwise (· ≤ ·) → m.Pairwise (· ≤ ·) → l = m
  | [], m, p, _, _ => (List.Perm.nil_eq p)
  | a :: l, [], p, _, _ => absurd p.length_eq (by simp)
  | a :: l, b :: m, p, h1, h2 => by
    rw [List.pairwise_cons] at h1 h2
    have e : a = b := by
      have ha : a ∈ b :: m := p.mem_iff.mp (.head _)
      have hb : b ∈ a :: l := p.mem_iff.mpr (.head _)
      rcases List.mem_cons.mp ha with rfl | ha
      · rfl
      rcases List.mem_cons.mp hb with rfl | hb
      · rfl
      exact Int.le_antisymm (h1.1 b hb) (h2.1 a ha)
    subst e
    rw [sorted_unique (List.Perm.cons_inv p) h1.2 h2.2]

section
variable {P : Par} {k : Nat}
theorem Cal.sum {ns : List Int} : Cal P k (.builtin "sum") [.list (ns.map PV.int)] (.int ns.sum) := ⟨fun {A X s E Q vs} R hb hX r h => by
  cases r with | cons a b =>
  cases b
  cases a with | list hn hl hr =>
  rename_i ad vs
  have hl' : s.heap.IsList ad vs.toList.toArray := by simpa using hl.isList
  have hi := hr.ints
  obtain ⟨xs, e⟩ := hi.allInts.items
  have hns : ns = xs.toList.map (·.1) := by rw [← hi.numsOf, ← nums_intItems, ← e]
  rw [e] at hl'
  refine sum_intListG R.handled hl' fun h' tk t' hk => ?_
  rw [preSum_eq, List.take_of_length_le (by simp), ← hns]
  exact h _ _ (Grow.mk' hk) (.int _ _)⟩
theorem Cal.sortedI {ns M : List Int} (h1 : M.Perm ns) (h2 : M.Pairwise (· ≤ ·)) (h64 : ns.length < 64) : Cal P k (.builtin "sorted") [.list (ns.map PV.int)] (.list (M.map PV.int)) := ⟨fun {A X s E Q vs} R hb hX r h => by
  cases r with | cons a b =>
  cases b
  cases a with | list hn hl hr =>
  rename_i ad vs
  have hl' : s.heap.IsList ad vs.toList.toArray := by simpa using hl.isList
  have hi := hr.ints
  refine sorted_ints hl' hi (by rw [hr.length, List.length_map]; exact h64) fun out ns' a1 a2 a3 => ?_
  have e : ns' = M := sorted_unique (a2.trans h1.symm) a3 h2
  subst e
  obtain ⟨ep, he⟩ := sortedAll_at s.heap vs.toList out
  refine h _ _ (Grow.mk' fun b o q => sortedAll_old q) (.list (fun q => ?_) ⟨ep, he⟩ (intsRep a1))
  obtain ⟨o, ho⟩ := hX _ q
  exact absurd (Heap.lt_size ho) (Nat.not_lt.mpr (Nat.le_succ _))⟩

theorem strsRep {C : Addr} {X : Addr → Prop} {h : Heap} : ∀ {vs : List Value} {ns : List Str}, StrsAre vs ns → RepL C X h vs (ns.map PV.str)
  | _, _, .nil => .nil
  | _, _, .cons n t b => .cons (.str n t) (strsRep b)
def one (c : Nat) : Str := ⟨#[c]⟩
theorem strs_signs {x : Str} {acc : Array Value} (h : ItemsOf (SignAt x) acc x.cps.size) : StrsAre acc.toList (x.cps.toList.map one) := by
  obtain ⟨h1, h2⟩ := h
  have key : ∀ (vs : List Value) (cs : List Nat), vs.length = cs.length → (∀ (j : Nat) (v : Value), vs[j]? = some v → ∃ c u, cs[j]? = some c ∧ v = Value.str ⟨#[c]⟩ u) → StrsAre vs (cs.map one) := by
    intro vs
    induction vs with
    | nil => intro cs hl _; rw [List.length_nil] at hl; rw [List.length_eq_zero_iff.mp hl.symm]; exact .nil
    | cons v vs ih =>
      intro cs hl hv
      cases cs with
      | nil => simp at hl
      | cons c cs =>
        obtain ⟨c', u, e1, rfl⟩ := hv 0 v rfl
        simp only [List.getElem?_cons_zero, Option.some.injEq] at e1
        subst e1
        exact .cons _ u (ih cs (by simpa using hl) fun j v hj => by simpa using hv (j + 1) v (by simpa using hj))
  refine key _ _ (by rw [Array.length_toList, Array.length_toList]; exact h1) fun j v hj => ?_
  obtain ⟨c, u, e1, e2⟩ := h2 j v (by rw [← Array.getElem?_toList]; exact hj)
  exact ⟨c, u, by rw [Array.getElem?_toList]; exact e1, e2⟩
theorem rising_one : ∀ (l : List Nat) (a : Nat), risingS (one a) (l.map one) = true → (a :: l).Pairwise (· ≤ ·)
  | [], a, _ => by simp
  | b :: l, a, h => by
    simp only [List.map_cons, risingS, Bool.and_eq_true, Bool.not_eq_true'] at h
    have ih := rising_one l b h.2
    have hab : a ≤ b := by
      have := h.1
      simp only [one, Spec.ltCps] at this
      simp at this
      omega
    rw [List.pairwise_cons]
    refine ⟨fun c hc => ?_, ih⟩
    rcases List.mem_cons.mp hc with rfl | hc
    · exact hab
    · exact Nat.le_trans hab ((List.pairwise_cons.mp ih).1 c hc)
theorem sortedS_one {l : List Nat} (h : sortedS (l.map one) = true) : l.Pairwise (· ≤ ·) := by
  cases l with
  | nil => exact .nil
  | cons a l => exact rising_one l a h
theorem map_one_of {ss : List Str} {l : List Nat} (h : ss.Perm (l.map one)) : ∃ m : List Nat, ss = m.map one ∧ m.Perm l := by
  have hm : ss = (ss.map fun s => s.cps.toList.headD 0).map one := by
    have : ∀ s ∈ ss, one (s.cps.toList.headD 0) = s := fun s hs => by
      obtain ⟨c, _, rfl⟩ := List.mem_map.mp (h.mem_iff.mp hs)
      rfl
    rw [List.map_map]
    exact ((List.map_congr_left (g := fun s => s) fun s hs => this s hs).trans (List.map_id' _)).symm
  refine ⟨_, hm, ?_⟩
  have := h.map (fun s : Str => s.cps.toList.headD 0)
  rw [List.map_map] at this
  have e : ((fun s : Str => s.cps.toList.headD 0) ∘ one) = id := by funext c; rfl
  rw [e, List.map_id] at this
  exact this
theorem nat_unique {l m : List Nat} (p : l.Perm m) (h1 : l.Pairwise (· ≤ ·)) (h2 : m.Pairwise (· ≤ ·)) : l = m := by
  have c : ∀ {l : List Nat}, l.Pairwise (· ≤ ·) → (l.map fun (n : Nat) => (n : Int)).Pairwise (· ≤ ·) := fun h => List.Pairwise.map _ (fun a b hab => Int.ofNat_le.mpr hab) h
  have := sorted_unique (p.map fun (n : Nat) => (n : Int)) (c h1) (c h2)
  have := congrArg (List.map Int.toNat) this
  simpa [List.map_map, Function.comp_def] using this
theorem Cal.sortedS {x : Str} {M : List Nat} (h1 : M.Perm x.cps.toList) (h2 : M.Pairwise (· ≤ ·)) (h64 : x.cps.size < 64) : Cal P k (.builtin "sorted") [.str x] (.list (M.map fun c => PV.str ⟨#[c]⟩)) := ⟨fun {A X s E Q vs} R hb hX r h => by
  cases r with | cons a b =>
  cases b; cases a
  refine Calls.call_function_entry kind_sorted plain_sorted entry_sorted (args_sorted1 _) ?_
  unfold Builtin.«sorted»
  refine wpAny_bind (m := checkCount "sorted" 1 1 _) (wpAny_pure ?_)
  refine wpAny_bind (wpAny_collect_str (A := A.in1) (show A.in1.handled = none from R.handled) x _ (fun s' acc hk hg hd ho hacc => ?_) (by show _ ≤ sizeLine; rw [sizeLine_eq]; exact Nat.le_trans (Nat.le_of_lt h64) (by decide)))
  have hS := strs_signs hacc
  have hlen : acc.toList.length < 64 := by rw [Array.length_toList, hacc.1]; exact h64
  refine wpAny_bind (wpAny_newList ?_ (by rw [sizeLine_eq]; omega))
  have hoL : (s'.heap.push (seqObj "list" acc.toList.toArray 0)).get? s'.heap.objs.size = some (seqObj "list" acc.toList.toArray 0) := Heap.get?_push_size _ rfl
  refine wpAny_bind (wpAny_holding (wpAny_call_entry slot_list_sort ⟨_, hoL, rfl⟩ entry_list_sort (list_sort_treeK strKind_oneLt hoL hS.keysOf (fun v₁ v₂ rest e => keyKind_strs (by rw [← e]; exact hS)) hlen fun st' a1 a2 => ⟨_, rfl, ?_⟩) (args_list_sort _)))
  refine wpAny_pure ⟨_, rfl, ?_⟩
  obtain ⟨ss', g1, g2, g3⟩ := sorted_out_str hS a1 a2
  obtain ⟨m, rfl, g4⟩ := map_one_of g2
  have e : m = M := nat_unique (g4.trans h1.symm) (sortedS_one g3) h2
  subst e
  obtain ⟨ep, he⟩ := sortedHeap_at (out := (arrOf st').map (·.2)) hoL
  have rr := strsRep (C := P.C) (X := X) (h := sortedHeap (s'.heap.push (seqObj "list" acc.toList.toArray 0)) s'.heap.objs.size acc.toList ((arrOf st').map (·.2))) g1
  rw [List.map_map] at rr
  have hk' : ∀ b o, s.heap.get? b = some o → (sortedHeap (s'.heap.push (seqObj "list" acc.toList.toArray 0)) s'.heap.objs.size acc.toList ((arrOf st').map (·.2))).get? b = some o := fun b o q => by
    have q' := hk b o q
    have hlt := Heap.lt_size q'
    rw [sortedHeap_old (Nat.ne_of_lt hlt) (by rw [size_push']; exact Nat.lt_succ_of_lt hlt)]
    exact Heap.get?_push_of_some _ q'
  refine h _ _ ⟨hk', hg, hd, ho⟩ (.list (fun q => ?_) ⟨ep, he⟩ rr)
  obtain ⟨o, ho⟩ := hX _ q
  exact absurd (Heap.lt_size (hk _ _ ho)) (Nat.lt_irrefl _)⟩
end
end Mine

end
noncomputable section
open PySem PySem.W PyProof.Rows PySem.Calls PyProof.V
set_option Elab.async false
set_option linter.unusedVariables false
namespace Mine
open PySem.Builtin.Str in
theorem split_plain {prog : Program} {w : World} {A : Around} {E : Value → Shared → Prop} {s : Shared} {x y : Str} {t u : Tok} {Q : Value → Shared → Prop} (hy : (y.length == 0) = false)
    (hq : ∀ l tk, l.map (·.1) = Txt.split x y → Q (.ref s.heap.objs.size) { s with heap := s.heap.push { cls := .type "list", data := .seq (strValues l).toArray }, toks := tk })
    (hsz : x.length ≤ sizeLine) (hsz2 : (partsBetween x (occurrences x y 0 x.length (x.length + 1)) y.length).length ≤ sizeLine) :
    wpAny (model prog w) A (call (.builtin "str.split") [.str x t, .str y u]) Q E s := by
  cases h1 : (decide (x.length < y.length) || decide (strKind x < strKind y))
  · cases hf : (occurrences x y 0 x.length (x.length + 1)).isEmpty
    · refine call_meets PySem.F.slot_str_split (typeIs_str _ _ _) PySem.F.entry_str_split (PySem.F.args_str_split_2 _ _) (meets_str_split_sep x y t u h1 hy hf hsz hsz2) ?_
      show wants Q E _ { s with toks := _, heap := s.heap.push { cls := .type "list", data := .seq (strsFrom s.toks (partsBetween x (occurrences x y 0 x.length (x.length + 1)) y.length)).toArray } }
      rw [strsFrom_eq]
      exact hq (numbered s.toks _) _ ((numbered_texts _ _).trans ((if_neg (ne_true_of_eq_false h1)).trans (if_neg (ne_true_of_eq_false hf))).symm)
    · exact call_meets PySem.F.slot_str_split (typeIs_str _ _ _) PySem.F.entry_str_split (PySem.F.args_str_split_2 _ _) (meets_str_split_not_found x y t u h1 hy hf)
        (hq [(x, t)] s.toks ((if_neg (ne_true_of_eq_false h1)).trans (if_pos hf)).symm)
  · exact call_meets PySem.F.slot_str_split (typeIs_str _ _ _) PySem.F.entry_str_split (PySem.F.args_str_split_2 _ _) (meets_str_split_cannot_occur x y t u h1)
      (hq [(x, t)] s.toks (if_pos h1).symm)
theorem strValues_are : ∀ l : List (Str × Tok), StrsAre (strValues l) (l.map (·.1))
  | [] => .nil
  | (x, t) :: l => .cons x t (strValues_are l)
section
variable {P : Par} {k : Nat}
open PySem.Builtin.Str in
theorem Cal.split {x y : Str} {ys : List Str} (hy : (y.length == 0) = false) (he : Txt.split x y = ys) (hsz : x.length ≤ 4096) (hsz2 : (partsBetween x (occurrences x y 0 x.length (x.length + 1)) y.length).length ≤ 4096) : Cal P k (.builtin "str.split") [.str x, .str y] (.list (ys.map PV.str)) := ⟨fun {A X s E Q vs} R hb hX r h => by
  cases r with | cons r1 r2 =>
  cases r1
  cases r2 with | cons r1 r2 =>
  cases r2; cases r1
  refine split_plain hy (fun l tk hl => ?_) (by rw [sizeLine_eq]; omega) (by rw [sizeLine_eq]; omega)
  have rr := strsRep (C := P.C) (X := X) (h := s.heap.push { cls := .type "list", data := .seq (strValues l).toArray }) (strValues_are l)
  rw [hl, he] at rr
  exact h _ _ (Grow.mk' fun b o e => Heap.get?_push_of_some _ e) (.list hX.size isList_push rr)⟩
end
end Mine

end
noncomputable section
open PySem PySem.W PyProof.Rows PySem.Calls PyProof.V
set_option Elab.async false
set_option linter.unusedVariables false
namespace Mine
def toC (l : List (Int × Int)) : List (Int × Cv) := l.map fun p => (p.1, Cv.i p.2)
theorem toC_fst (l : List (Int × Int)) : (toC l).map (·.1) = l.map (·.1) := by simp [toC, Function.comp_def]
theorem entryI_at (t : Nat) (p : Int × Int) : entryI (entryAt t (p.1, Cv.i p.2)) p = true := by simp [entryI, entryAt, valC]
theorem entriesI_long : ∀ (l : List (Int × Int)) (t : Nat), entriesI (longEs t (toC l)) l = true
  | [], _ => rfl
  | p :: l, t => by
    show (entryI (entryAt t (p.1, Cv.i p.2)) p && entriesI (longEs (t + 3) (toC l)) l) = true
    rw [entryI_at, entriesI_long l]; rfl
theorem entriesI_short : ∀ (l : List (Int × Int)) (t : Nat), entriesI (shortEs t (toC l)) l = true
  | [], _ => rfl
  | p :: l, t => by
    show (entryI (entryAt t (p.1, Cv.i p.2)) p && entriesI (shortEs (t + 2) (toC l)) l) = true
    rw [entryI_at, entriesI_short l]; rfl
theorem entriesI_append : ∀ {es fs : List DictEntry} {l m : List (Int × Int)}, entriesI es l = true → entriesI fs m = true → entriesI (es ++ fs) (l ++ m) = true
  | [], _, [], _, _, h => h
  | [], _, _ :: _, _, h, _ => by simp [entriesI] at h
  | _ :: _, _, [], _, h, _ => by simp [entriesI] at h
  | e :: es, fs, p :: l, m, h, h' => by
    simp only [entriesI, Bool.and_eq_true] at h
    show (entryI e p && entriesI (es ++ fs) (l ++ m)) = true
    rw [h.1, entriesI_append h.2 h']; rfl
theorem entriesI_pairs {prog : Program} {w : World} : ∀ {es : List DictEntry} {ps : List (Int × Int)}, entriesI es ps = true → ∃ kvs, Pairs (intKind prog w) es kvs ∧ FlatPairs PyData.int kvs (ps.map fun p => (PyData.int p.1, PyData.int p.2)) ∧ kvs.map (·.1) = ps.map (·.1) ∧ ∀ e ∈ es, ∃ k, (intKind prog w).is k e.key = true ∧ e.hash = (intKind prog w).hash k
  | [], [], _ => ⟨[], .nil, .nil, rfl, fun e he => nomatch he⟩
  | [], _ :: _, h => by simp [entriesI] at h
  | _ :: _, [], h => by simp [entriesI] at h
  | e :: es, p :: ps, h => by
    simp only [entriesI, Bool.and_eq_true] at h
    obtain ⟨kvs, h1, h2, h3, h4⟩ := entriesI_pairs (prog := prog) (w := w) h.2
    obtain ⟨hh, key, val⟩ := e
    obtain ⟨i, x⟩ := p
    have he := h.1
    unfold entryI at he
    split at he
    · rename_i k t y u hk hv
      simp only [Bool.and_eq_true, beq_iff_eq] at he hk hv
      obtain ⟨⟨rfl, rfl⟩, rfl⟩ := he
      subst hk; subst hv
      refine ⟨(k, .int y u) :: kvs, .cons (isInt_self k t) rfl h1, .cons (Flat.int y u) h2, by rw [List.map_cons, List.map_cons, h3], fun e he => ?_⟩
      rcases List.mem_cons.mp he with rfl | he
      · exact ⟨k, isInt_self k t, rfl⟩
      · exact h4 e he
    · cases he
theorem TabI.tab {prog : Program} {w : World} {h : Heap} {a : Addr} {l : List (Int × Int)} (x : TabI h a l) : IntTab prog w h a (l.map fun p => (PyData.int p.1, PyData.int p.2)) := by
  obtain ⟨es, n, ho, ha, h1, h2⟩ := x
  obtain ⟨kvs, p1, p2, p3, p4⟩ := entriesI_pairs (prog := prog) (w := w) h1
  exact ⟨ha, kvs, ⟨_, _, _, ho, ⟨rfl, rfl, rfl⟩, rfl, fun e he => p4 e (by simpa using he), by simpa using p1, by rw [p3]; exact h2⟩, p2⟩
def findI (l : List (Int × Int)) (i : Int) : Option Int := (l.find? fun p => p.1 == i).map (·.2)
theorem lookup_findI (ps : List (Int × Int)) (i : Int) : Spec.lookup (.int i) (ps.map fun p => (PyData.int p.1, PyData.int p.2)) = (findI ps i).map PyData.int := by
  induction ps with
  | nil => rfl
  | cons p ps ih =>
    unfold findI at ih ⊢
    rw [List.map_cons, List.find?_cons]
    show (if Spec.same (.int p.1) (.int i) = true then some (PyData.int p.2) else Spec.lookup (.int i) _) = _
    have : Spec.same (.int p.1) (.int i) = (p.1 == i) := by simp [Spec.same]
    rw [this]
    by_cases q : (p.1 == i) = true
    · rw [if_pos q, q]; rfl
    · rw [if_neg q, ih]
      have : (p.1 == i) = false := by simpa using q
      rw [this]
def findS (l : List (Str × Int)) (x : Str) : Option Int := (l.find? fun p => p.1 == x).map (·.2)
theorem lookup_findS (ps : List (Str × Int)) (x : Str) : Spec.lookup (.str x) (ps.map fun p => (PyData.str p.1, PyData.int p.2)) = (findS ps x).map PyData.int := by
  induction ps with
  | nil => rfl
  | cons p ps ih =>
    unfold findS at ih ⊢
    rw [List.map_cons, List.find?_cons]
    show (if Spec.same (.str p.1) (.str x) = true then some (PyData.int p.2) else Spec.lookup (.str x) _) = _
    have : Spec.same (.str p.1) (.str x) = (p.1 == x) := by simp [Spec.same]
    rw [this]
    by_cases q : (p.1 == x) = true
    · rw [if_pos q, q]; rfl
    · rw [if_neg q, ih]
      have : (p.1 == x) = false := by simpa using q
      rw [this]

section
variable {P : Par} {k : Nat} {sc : Scope} {n : Nm}
/-- a dict display of 18 to 32 int constants -/
theorem Ev.dictI {ks : List (Option Expr)} {vs : List Expr} {pos : Pos} {c0 last : List (Int × Int)} {b : Addr} {ob : Obj} (hp : constPairs ks vs = some (toC (c0 ++ last))) (h0 : c0.length = 17) (hl : last.length ≤ 15) (hl0 : last ≠ []) (hn : ((c0 ++ last).map (·.1)).Nodup) (hb : P.hB.get? b = some ob) (hs : sysModules < b) :
    Ev P k sc n (.Dict ks vs pos) (.tab (c0 ++ last)) := ⟨by
  intro A env W X s E Q R G h
  have hsz : b < s.heap.objs.size := Heap.lt_size (G.base _ _ hb)
  rw [arm_eval_Dict, zip_of hp]
  refine wpAny_bind (wpAny_standAt ?_)
  have e : toC (c0 ++ last) = toC c0 ++ ([] : List (List (Int × Cv))).flatten ++ toC last := by simp [toC]
  have hn' : ((toC c0 ++ ([] : List (List (Int × Cv))).flatten ++ toC last).map (·.1)).Nodup := by rw [← e, toC_fst]; exact hn
  rw [e]
  refine display (Nat.lt_trans hs hsz) (by simpa [toC] using h0) (fun c hc => nomatch hc) (by simpa [toC] using hl) (by simpa [toC] using hl0) hn' (by simp [toC, sizeLine_eq]; omega) (fun y hy => ?_)
  subst hy
  have hg := ext_get s.heap [] ((St3.last (List.foldl St3.chunk (St3.start s.toks (toC c0)) []) (toC last)).post) (dObj (longEs s.toks (toC c0) ++ shortEs (s.toks + 3 * (toC c0).length) (toC last)) (longEs s.toks (toC c0) ++ shortEs (s.toks + 3 * (toC c0).length) (toC last)).length) rfl
  have hk : ∀ b o, s.heap.get? b = some o → (ext s.heap (St3.last (List.foldl St3.chunk (St3.start s.toks (toC c0)) []) (toC last)).objs).get? b = some o := fun b o q => by
    have hlt := Heap.lt_size q
    unfold Heap.get? at q ⊢
    have : (ext s.heap (St3.last (List.foldl St3.chunk (St3.start s.toks (toC c0)) []) (toC last)).objs).objs[b]? = s.heap.objs[b]? := by
      unfold ext
      exact Array.getElem?_append_left hlt
    rw [this]; exact q
  refine h _ _ ⟨hk, rfl, rfl, rfl⟩ (.tab G.stand.size ⟨_, _, hg, ?_, ?_, hn⟩)
  · have : s.heap.objs.size ≠ sysModules := Nat.ne_of_gt (Nat.lt_trans hs hsz)
    exact beq_false_of_ne this
  · exact entriesI_append (entriesI_long _ _) (entriesI_short _ _)⟩
/-- a look into such a dict -/
theorem Ev.tget {o e₁ e₂ : Expr} {ap pos : Pos} {i j : Int} {l : List (Int × Int)} (ho : Ev P k sc n o (.tab l)) (ha : Evs P k sc n [e₁, e₂] [.int i, .int j])
    (he : ∀ env, starEach [e₁, e₂] env = (false, eval e₁ env) :: starEach [e₂] env) (hp : ∀ pos env, (backTo pos (starEach [e₂] env)).any (·.1) = false)
    (hm : ∀ env, ∃ pl, eval (.Call (.Attribute o "get" ap) [e₁, e₂] [] pos) env = (do let ov ← eval o env; standAt ap.atName; let (f, first) ← holding [ov] (getMethod ov "get" pl); callWith pos f first (backTo pos (starEach [e₁, e₂] env)) [])) :
    Ev P k sc n (.Call (.Attribute o "get" ap) [e₁, e₂] [] pos) (.int ((findI l i).getD j)) := ⟨by
  intro A env W X s E Q R G h
  obtain ⟨pl, hm⟩ := hm env
  refine MethodCall_ (pl := pl) ?_ hm
  refine ho.go R G fun v s₁ g₁ r₁ => ?_
  have G₁ := G.grow g₁.heap
  cases r₁ with
  | tab hx ht =>
  refine getMethod_intTab_get ht.tab (callWith_method1 (ha.go R G₁ fun us s₂ g₂ rs => ?_) (he env) (hp _ _))
  cases rs with
  | cons r₁ rn =>
  cases rn with
  | cons r₂ rn =>
  cases rn
  cases r₁ with
  | int _ t =>
  cases r₂ with
  | int _ u =>
  refine call_get2_intTab (ht.tab.keep g₂.heap) (Flat.int j u) fun v hf => ?_
  rw [lookup_findI] at hf
  refine h v _ ((g₁.trans g₂).trans (Grow.toks _ _)) ?_
  cases q : findI l i with
  | none => rw [q] at hf; obtain ⟨u, rfl⟩ := Flat.int_inv hf; exact .int _ _
  | some y => rw [q] at hf; obtain ⟨u, rfl⟩ := Flat.int_inv hf; exact .int _ _⟩
/-- a look into a display of three texts -/
theorem Ev.disp3 {a b c : Str} {x y z : Int} {j₁ j₂ j₃ j₄ j₅ j₆ : Nat} {p₁ p₂ p₃ p₄ p₅ p₆ dp ap pos : Pos} {e₁ e₂ : Expr} {u : Str} {j : Int} {dE : Expr} (hE : dE = .Dict [some (.Constant (.str a) j₁ p₁), some (.Constant (.str b) j₂ p₂), some (.Constant (.str c) j₃ p₃)] [.Constant (.int x) j₄ p₄, .Constant (.int y) j₅ p₅, .Constant (.int z) j₆ p₆] dp) (hab : a ≠ b) (hac : a ≠ c) (hbc : b ≠ c) {bA : Addr} {ob : Obj} (hb : P.hB.get? bA = some ob) (hs : sysModules < bA) (ha : Evs P k sc n [e₁, e₂] [.str u, .int j])
    (he : ∀ env, starEach [e₁, e₂] env = (false, eval e₁ env) :: starEach [e₂] env) (hp : ∀ pos env, (backTo pos (starEach [e₂] env)).any (·.1) = false)
    (hm : ∀ env, ∃ pl, eval (.Call (.Attribute dE "get" ap) [e₁, e₂] [] pos) env = (do let ov ← eval dE env; standAt ap.atName; let (f, first) ← holding [ov] (getMethod ov "get" pl); callWith pos f first (backTo pos (starEach [e₁, e₂] env)) [])) :
    Ev P k sc n (.Call (.Attribute dE "get" ap) [e₁, e₂] [] pos) (.int ((findS [(a, x), (b, y), (c, z)] u).getD j)) := ⟨by
  intro A env W X s E Q R G h
  obtain ⟨pl, hm⟩ := hm env
  refine MethodCall_ (pl := pl) ?_ hm
  have hsz : sysModules < s.heap.objs.size := Nat.lt_trans hs (Heap.lt_size (G.base _ _ hb))
  rw [hE]
  refine wpAny_Dict_walk (knd := PySem.strKind P.prog P.w) rfl rfl (by simp) (by simp) ?_
  refine pairTrees_cons_walk (wpAny_Constant_str (wpAny_Constant_int ?_))
  refine pairTrees_cons_walk (wpAny_Constant_str (wpAny_Constant_int ?_))
  refine pairTrees_cons_walk (wpAny_Constant_str (wpAny_Constant_int ?_))
  refine pairTrees_nil_walk ?_
  refine ⟨[(a, _), (b, _), (c, _)], ⟨PySem.strKind_is _ _ _ _, rfl, PySem.strKind_is _ _ _ _, rfl, PySem.strKind_is _ _ _ _, rfl, trivial⟩, ⟨_, _, _, Heap.get?_push_size _ rfl, ⟨rfl, rfl, rfl⟩, rfl, (fun e he => by simp at he), .nil, List.nodup_nil⟩, fun h' hd hsb => ?_⟩
  have em : merged [] [(a, Value.int x (s.toks + 1)), (b, Value.int y (s.toks + 1 + 1 + 1)), (c, Value.int z (s.toks + 1 + 1 + 1 + 1 + 1))] = [(a, Value.int x (s.toks + 1)), (b, Value.int y (s.toks + 1 + 1 + 1)), (c, Value.int z (s.toks + 1 + 1 + 1 + 1 + 1))] := by
    simp [merged, stored, hab, hac, hbc]
  have ht : StrTab P.prog P.w h' s.heap.objs.size ([(a, x), (b, y), (c, z)].map fun p => (PyData.str p.1, PyData.int p.2)) := by
    refine ⟨beq_false_of_ne (Nat.ne_of_gt hsz), _, hd, ?_⟩
    rw [em]
    exact .cons (Flat.int _ _) (.cons (Flat.int _ _) (.cons (Flat.int _ _) .nil))
  have hk : ∀ b o, s.heap.get? b = some o → h'.get? b = some o := fun b o q => (hsb.2 b (Nat.ne_of_lt (Heap.lt_size q))).trans (Heap.get?_push_of_some _ q)
  have G₁ := G.grow hk
  refine getMethod_strTab_get ht (callWith_method1 (ha.go R G₁ fun us s₂ g₂ rs => ?_) (he env) (hp _ _))
  cases rs with
  | cons r₁ rn =>
  cases rn with
  | cons r₂ rn =>
  cases rn
  cases r₁ with
  | str _ t =>
  cases r₂ with
  | int _ tu =>
  refine call_get2_strTab (ht.keep g₂.heap) (Flat.int j tu) fun v hf => ?_
  rw [lookup_findS] at hf
  have g₃ : Grow s s₂ := ⟨fun b o q => g₂.heap b o (hk b o q), g₂.gens, g₂.drawn, g₂.os⟩
  refine h v _ (g₃.trans (Grow.toks _ _)) ?_
  cases q : findS [(a, x), (b, y), (c, z)] u with
  | none => rw [q] at hf; obtain ⟨u, rfl⟩ := Flat.int_inv hf; exact .int _ _
  | some y => rw [q] at hf; obtain ⟨u, rfl⟩ := Flat.int_inv hf; exact .int _ _⟩
end
end Mine

end
noncomputable section
open PySem PySem.W PyProof.Rows PySem.Calls
set_option Elab.async false
set_option linter.unusedVariables false
namespace Mine
section
variable {P : Par} {k : Nat} {sc : Scope} {t elt : Expr} {ifs : List Expr}
/-- a clause whose items are known -/
theorem Cp1.allM {β : Type} {q : β → PV} {f : β → PV} {T : Nm → Prop} : ∀ (l : List β), (∀ n, T n → ∀ b ∈ l, ∃ n₁, asg sc t (q b) n = some n₁ ∧ T n₁ ∧ Ev P k sc n₁ elt (f b)) → ∀ (n : Nm), T n → ∃ n', T n' ∧ Cp1 P k sc elt t [] n (l.map q) (l.map f) n'
  | [], _, n, h => ⟨n, h, .nil⟩
  | b :: l, hT, n, h => by
    obtain ⟨n₁, a1, a2, a3⟩ := hT n h b (.head _)
    obtain ⟨n', b1, b2⟩ := Cp1.allM l (fun n h b hb => hT n h b (.tail _ hb)) n₁ a2
    exact ⟨n', b1, .take (zs := [f b]) a1 .nil ⟨f b, rfl, rfl, a3⟩ b2⟩
theorem Cp2.flatM {α β : Type} {t₀ iter : Expr} {g : α → PV} {h : α → List β} {q : β → PV} {f : α → β → PV} {S : Nm → Prop} {T : α → Nm → Prop} : ∀ (l : List α), (∀ n, S n → ∀ a ∈ l, ∃ n₁, asg sc t₀ (g a) n = some n₁ ∧ T a n₁) → (∀ a ∈ l, ∀ n, T a n → Src P k sc n iter ((h a).map q)) →
    (∀ a ∈ l, ∀ n, T a n → ∀ b ∈ h a, ∃ n₁, asg sc t (q b) n = some n₁ ∧ T a n₁ ∧ Ev P k sc n₁ elt (f a b)) → (∀ a n, T a n → S n) →
    ∀ (n : Nm), S n → ∃ n', Cp2 P k sc elt t₀ [] t iter [] n (l.map g) (l.flatMap fun a => (h a).map (f a)) n'
  | [], _, _, _, _, n, _ => ⟨n, .nil⟩
  | a :: l, h1, h2, h3, h4, n, hn => by
    obtain ⟨n₁, a1, a2⟩ := h1 n hn a (.head _)
    obtain ⟨n₂, b1, b2⟩ := Cp1.allM (h a) (h3 a (.head _)) n₁ a2
    obtain ⟨n', c⟩ := Cp2.flatM l (fun n hn b hb => h1 n hn b (.tail _ hb)) (fun b hb => h2 b (.tail _ hb)) (fun b hb => h3 b (.tail _ hb)) h4 n₂ (h4 a n₂ b1)
    exact ⟨n', .take a1 .nil ⟨_, h2 a (.head _) n₁ a2, b2⟩ c⟩
end
end Mine

end
noncomputable section
open PySem PySem.W
set_option Elab.async false
set_option maxRecDepth 100000
namespace Mine
open PySem.UnicodeData
theorem lower_one (c : Nat) : Txt.lower ⟨#[c]⟩ = ⟨(Unicode.lowerOf c).toArray⟩ := by
  show (⟨((#[c] : Array Nat).mapIdx fun i _ => (Unicode.lowerAt #[c] i).toArray).flatten⟩ : Str) = _
  have e : Unicode.lowerAt #[c] 0 = Unicode.lowerOf c := by
    show (if (c == 0x3A3 && Unicode.endsWord #[c] 0) = true then _ else _) = _
    have : Unicode.endsWord #[c] 0 = false := rfl
    rw [this, Bool.and_false, if_neg (by decide)]
    rfl
  simp [e]
theorem lowerOf_one {c : Nat} (h : c ≠ 304) : Unicode.lowerOf c = [(Unicode.shifted oneLower c).getD c] := by
  show (match (severalLower.lookup c) with | some cs => cs | none => [(Unicode.shifted oneLower c).getD c]) = _
  have : severalLower.lookup c = none := by
    show List.lookup c [(0x130, [0x69, 0x307])] = none
    have h' : (c == 0x130) = false := beq_false_of_ne h
    simp only [List.lookup, h']
  rw [this]
end Mine

end
noncomputable section
open PySem PySem.W PyProof.Rows PySem.Calls Mine
set_option Elab.async false
set_option linter.unusedVariables false
set_option maxRecDepth 100000
namespace L02
local macro_rules | `(tactic| ke_reads) => `(tactic| first | exact Evs.nil | (refine' Evs.cons ?_ ?_ (fun _ => rfl); ke_read; ke_reads))
local macro_rules | `(tactic| ke_read) => `(tactic| first
  | exact Ev.int _ _ _ | exact Ev.str _ _ _ | exact Ev.name rfl rfl rfl rfl
  | (refine' Ev.list ?_ ?_; ke_reads; rfl)
  | (refine' Ev.tup ?_ ?_; ke_reads; rfl)
  | (refine' Ev.bin ?_ ?_ ?_; ke_read; ke_read; rfl))
theorem glb_ord (w : World) : Glb (Gd w) "ord" (.builtin "ord") := .inr ⟨by kernel_rfl, by kernel_rfl⟩
theorem glb_chr (w : World) : Glb (Gd w) "chr" (.builtin "chr") := .inr ⟨by kernel_rfl, by kernel_rfl⟩
theorem glb_sum (w : World) : Glb (Gd w) "sum" (.builtin "sum") := .inr ⟨by kernel_rfl, by kernel_rfl⟩
theorem glb_sorted (w : World) : Glb (Gd w) "sorted" (.builtin "sorted") := .inr ⟨by kernel_rfl, by kernel_rfl⟩

/-! _law_nothing -/
def spans : List (Nat × Nat) := [(173, 173), (847, 847), (6150, 6150), (6155, 6157), (8203, 8205), (8288, 8288), (65024, 65039), (65279, 65279)]
def spanPV (a : Nat × Nat) : PV := .tup [.int a.1, .int a.2]
def nothing : List Nat := spans.flatMap fun a => (List.range (a.2 + 1 - a.1)).map fun j => a.1 + j
def signPV (c : Nat) : PV := .str ⟨#[c]⟩
theorem nothing_ok (w : World) : Cal (Gd w) 1 (.ref ad_nothing) [] (.list (nothing.map signPV)) := by
  refine Cal.fn (k := 0) (fn_nothing w) rfl ?_
  refine Ex.cons (n₁ := ⟨[("runs", .list ((spans.take 4).map spanPV))], none, none⟩) (Ex1.assign (d := .list ((spans.take 4).map spanPV)) (by ke_read) rfl (fun _ => rfl)) ?_
  refine Ex.cons (n₁ := ⟨[("runs", .list (spans.map spanPV))], none, none⟩) (Ex1.assign (d := .list ((spans.take 4).map spanPV ++ (spans.drop 4).map spanPV)) (Ev.addL (Ev.name rfl rfl rfl rfl) (by ke_read) (by decide)) rfl (fun _ => rfl)) ?_
  have hc := Cp2.flatM (P := Gd w) (k := 0) (sc := relab (aLC2 (aRet0 (stAt bd_nothing 2))) fd_nothing.scope) (elt := aLC0 (aRet0 (stAt bd_nothing 2)))
    (t₀ := aC0 (cpAt (aLC1 (aRet0 (stAt bd_nothing 2))) 0)) (t := aC0 (cpAt (aLC1 (aRet0 (stAt bd_nothing 2))) 1)) (iter := aC1 (cpAt (aLC1 (aRet0 (stAt bd_nothing 2))) 1))
    (g := spanPV) (h := fun a => (List.range (a.2 + 1 - a.1)).map fun j => a.1 + j) (q := fun (c : Nat) => PV.int c) (f := fun a c => signPV c)
    (S := fun n => n = ⟨[], none, none⟩ ∨ ∃ (a : Nat × Nat), n = ⟨[("first", .int a.1), ("last", .int a.2)], none, none⟩ ∨ ∃ c, n = ⟨[("first", .int a.1), ("last", .int a.2), ("code", c)], none, none⟩)
    (T := fun a n => n = ⟨[("first", .int a.1), ("last", .int a.2)], none, none⟩ ∨ ∃ c, n = ⟨[("first", .int a.1), ("last", .int a.2), ("code", c)], none, none⟩)
    spans
    (fun n hn a _ => by
      rcases hn with rfl | ⟨a', rfl | ⟨c, rfl⟩⟩
      · exact ⟨_, rfl, .inl rfl⟩
      · exact ⟨_, rfl, .inl rfl⟩
      · exact ⟨_, rfl, .inr ⟨c, rfl⟩⟩)
    (fun a ha n hn => by
      have hsm : ((a.2 : Nat) : Int).natAbs ≤ 100000 ∧ ((a.1 : Nat) : Int).natAbs ≤ 100000 := by
        have : ∀ a ∈ spans, a.2 ≤ 100000 ∧ a.1 ≤ 100000 := by decide
        have := this a ha
        omega
      have e := nums_eq a.1 (a.2 + 1)
      rw [← e]
      rcases hn with rfl | ⟨c, rfl⟩
      · exact Src.range2 rfl (glb_range w) rfl (Evs.cons (Ev.name rfl rfl rfl rfl) (Evs.cons (inc (Ev.name rfl rfl rfl rfl)) Evs.nil (fun _ => rfl)) (fun _ => rfl)) (smallI_of (by omega)) (smallI_of (by omega)) (fun _ => rfl) (fun _ _ => rfl)
      · exact Src.range2 rfl (glb_range w) rfl (Evs.cons (Ev.name rfl rfl rfl rfl) (Evs.cons (inc (Ev.name rfl rfl rfl rfl)) Evs.nil (fun _ => rfl)) (fun _ => rfl)) (smallI_of (by omega)) (smallI_of (by omega)) (fun _ => rfl) (fun _ _ => rfl))
    (fun a ha n hn b hb => by
      have hb' : b ≤ 100000 := by
        have : ∀ a ∈ spans, a.2 ≤ 100000 ∧ a.1 ≤ 100000 := by decide
        have := this a ha
        obtain ⟨j, hj, rfl⟩ := List.mem_map.mp hb
        have := List.mem_range.mp hj
        omega
      rcases hn with rfl | ⟨c, rfl⟩
      · exact ⟨_, rfl, .inr ⟨_, rfl⟩, Ev.callB rfl (glb_chr w) rfl (Evs.cons (Ev.name rfl rfl rfl rfl) Evs.nil (fun _ => rfl)) (Cal.chr (by omega) (by omega)) (fun _ => rfl) (fun _ _ => rfl)⟩
      · exact ⟨_, rfl, .inr ⟨_, rfl⟩, Ev.callB rfl (glb_chr w) rfl (Evs.cons (Ev.name rfl rfl rfl rfl) Evs.nil (fun _ => rfl)) (Cal.chr (by omega) (by omega)) (fun _ => rfl) (fun _ _ => rfl)⟩)
    (fun a n hn => .inr ⟨a, hn⟩) ⟨[], none, none⟩ (.inl rfl)
  obtain ⟨n', hc⟩ := hc
  have e : (spans.flatMap fun a => ((List.range (a.2 + 1 - a.1)).map fun j => a.1 + j).map fun c => signPV c) = nothing.map signPV := by
    unfold nothing; rw [List.map_flatMap]
  rw [e] at hc
  exact Ex.ret (Ex1.ret (Ev.comp (by decide +kernel) (Src.list (Ev.name rfl rfl rfl rfl)) (fun _ _ => rfl) (LoopOk.two rfl rfl (fun _ _ => rfl) hc rfl)))
end L02

end
noncomputable section
open PySem PySem.W PyProof.Rows PySem.Calls Mine
set_option Elab.async false
set_option linter.unusedVariables false
set_option maxRecDepth 100000
namespace L02
noncomputable section
/-! which letter a sign is folded to -/
def gaps0 : List (Int × Int) := [(119965, 8492), (119968, 8496), (119969, 8497), (119971, 8459), (119972, 8464), (119975, 8466), (119976, 8499), (119981, 8475), (120070, 8493), (120075, 8460), (120076, 8465), (120085, 8476), (120093, 8488), (120122, 8450), (120127, 8461), (120133, 8469), (120135, 8473)]
def gaps1 : List (Int × Int) := [(120136, 8474), (120137, 8477), (120145, 8484)]
def gapsL : List (Int × Int) := gaps0 ++ gaps1
def ownL : List (Str × Int) := [("d", 8517), ("k", 8490), ("s", 383)]
def rawI (p w : Nat) : Int := 119808 + 52 * (w : Int) + (p : Int)
/-- the sign of a letter, by its place and its way -/
def codeI (p w : Nat) : Int :=
  if w < 13 then (findI gapsL (rawI p w)).getD (rawI p w)
  else if w = 13 then 65 + (p : Int)
  else if w = 14 then (findS ownL ⟨#[97 + p]⟩).getD (65 + (p : Int))
  else 97 + (p : Int)
theorem find_of_mem : ∀ {ps : List (Int × Str)} {i : Int} {x : Str}, asc ps = true → (i, x) ∈ ps → find ps i = some x
  | a :: ps, i, x, h, hm => by
    unfold find
    rw [List.find?_cons]
    rcases List.mem_cons.mp hm with e | hm
    · subst e
      simp
    · have := asc_lt h _ hm
      have q : (a.1 == i) = false := beq_false_of_ne (by simp only at this; omega)
      rw [q]
      exact find_of_mem (by cases ps with | nil => rfl | cons b l => simp only [asc, Bool.and_eq_true] at h; exact h.2) hm
theorem find_below {ps : List (Int × Str)} {i : Int} (h : ∀ a ∈ ps, i < a.1) : find ps i = none := by
  unfold find
  rw [Option.map_eq_none_iff, List.find?_eq_none]
  intro a ha
  have := h a ha
  simp; omega
def subOf : List (Int × Str) → List (Int × Str) → Bool
  | _, [] => true
  | [], _ :: _ => false
  | p :: ps, q :: qs => match p.1 == q.1 with
    | true => (p.2 == q.2) && subOf ps qs
    | false => subOf ps (q :: qs)
theorem sub_mem : ∀ {ps qs : List (Int × Str)}, subOf ps qs = true → ∀ q ∈ qs, q ∈ ps
  | _, [], _, q, hq => nomatch hq
  | [], _ :: _, h, _, _ => by simp [subOf] at h
  | p :: ps, q :: qs, h, r, hr => by
    unfold subOf at h
    cases e : p.1 == q.1 with
    | true =>
      rw [e] at h
      simp only [Bool.and_eq_true, beq_iff_eq] at h e
      rcases List.mem_cons.mp hr with rfl | hr
      · obtain ⟨a, b⟩ := p
        obtain ⟨c, d⟩ := r
        simp only at e h
        rw [e, h.1]; exact .head _
      · exact .tail _ (sub_mem h.2 r hr)
    | false =>
      rw [e] at h
      exact .tail _ (sub_mem h r hr)
def letterS (p : Nat) : Str := ⟨#[97 + p]⟩
/-- the great letters that stand at their own places in the alphabets -/
def greats : List (Int × Str) := (List.range 338).filterMap fun j => if (findI gapsL (rawI (j % 26) (j / 26))).isSome then none else some (rawI (j % 26) (j / 26), letterS (j % 26))
theorem greats_in : subOf pairsS greats = true := by kernel_rfl
theorem gaps_in : (gapsL.all fun g => (find pairsS g.2 == some (letterS ((g.1 - 119808).toNat % 52)))) = true := by kernel_rfl
theorem low_all : ((List.range 26).all fun p => (Txt.lower ⟨#[65 + p]⟩ == letterS p) && (Txt.lower ⟨#[97 + p]⟩ == letterS p)) = true := by kernel_rfl
theorem first_b3 : (match pairsS with | a :: _ => decide (180 < a.1) | [] => false) = true := by kernel_rfl
theorem own_in : ((find pairsS 8517 == some (letterS 3)) && (find pairsS 8490 == none) && (Txt.lower ⟨#[8490]⟩ == letterS 10) && (find pairsS 383 == some (letterS 18))) = true := by kernel_rfl
theorem codes_in : ((List.range 17).all fun w => (List.range 26).all fun p => decide (0 ≤ codeI p w) && Nat.ble (codeI p w).toNat 1114111 && !inB1 (codeI p w).toNat) = true := by kernel_rfl
theorem find_low {c : Nat} (h : c ≤ 180) : find pairsS c = none := by
  have h1 := first_b3
  have h2 := b3_asc
  revert h1 h2
  generalize pairsS = ps
  intro h1 h2
  cases ps with
  | nil => rfl
  | cons a l =>
    simp only [decide_eq_true_eq] at h1
    refine find_below fun b hb => ?_
    rcases List.mem_cons.mp hb with rfl | hb
    · omega
    · have := asc_lt h2 b hb; omega
theorem fold_low {c p : Nat} (hp : p < 26) (h : c = 65 + p ∨ c = 97 + p) : foldOf c = letterS p := by
  unfold foldOf
  have := List.all_eq_true.mp low_all p (List.mem_range.mpr hp)
  simp only [Bool.and_eq_true, beq_iff_eq] at this
  rw [find_low (by omega)]
  rcases h with rfl | rfl
  · exact this.1
  · exact this.2
theorem fold_of_find {c : Nat} {i : Int} {x : Str} (hi : (c : Int) = i) (h : find pairsS i = some x) : foldOf c = x := by
  unfold foldOf
  rw [hi, h]; rfl
theorem findI_mem {l : List (Int × Int)} {i j : Int} (h : findI l i = some j) : (i, j) ∈ l := by
  unfold findI at h
  obtain ⟨p, hp, rfl⟩ := Option.map_eq_some_iff.mp h
  have h1 := List.mem_of_find?_eq_some hp
  have h2 := List.find?_some hp
  simp only [beq_iff_eq] at h2
  rw [← h2]; exact h1
structure CodeOk (p : Nat) (i : Int) : Prop where
  nn : 0 ≤ i
  le : i ≤ 1114111
  out : inB1 i.toNat = false
  fold : foldOf i.toNat = letterS p
theorem code_ok {p w : Nat} (hp : p < 26) (hw : w < 17) : CodeOk p (codeI p w) := by
  have h0 := List.all_eq_true.mp (List.all_eq_true.mp codes_in w (List.mem_range.mpr hw)) p (List.mem_range.mpr hp)
  simp only [Bool.and_eq_true, decide_eq_true_eq, Bool.not_eq_true'] at h0
  obtain ⟨⟨h1, h2⟩, h3⟩ := h0
  have h2 := Nat.le_of_ble_eq_true h2
  refine ⟨h1, by omega, h3, ?_⟩
  clear h2 h3
  revert h1
  unfold codeI
  by_cases q : w < 13
  · rw [if_pos q]
    cases e : findI gapsL (rawI p w) with
    | some j =>
      intro h1
      rw [Option.getD_some] at h1 ⊢
      have := List.all_eq_true.mp gaps_in _ (findI_mem e)
      simp only [beq_iff_eq] at this
      have hq : (rawI p w - 119808).toNat % 52 = p := by unfold rawI; omega
      rw [hq] at this
      exact fold_of_find (by omega) this
    | none =>
      intro h1
      rw [Option.getD_none] at h1 ⊢
      have hj : (rawI p w, letterS p) ∈ greats := by
        refine List.mem_filterMap.mpr ⟨26 * w + p, List.mem_range.mpr (by omega), ?_⟩
        have a1 : (26 * w + p) % 26 = p := by omega
        have a2 : (26 * w + p) / 26 = w := by omega
        rw [a1, a2, e]; rfl
      exact fold_of_find (by omega) (find_of_mem b3_asc (sub_mem greats_in _ hj))
  · rw [if_neg q]
    by_cases q1 : w = 13
    · rw [if_pos q1]
      intro _
      exact fold_low hp (by omega)
    · rw [if_neg q1]
      by_cases q2 : w = 14
      · rw [if_pos q2]
        intro _
        have ow := own_in
        simp only [Bool.and_eq_true, beq_iff_eq] at ow
        obtain ⟨⟨⟨o1, o2⟩, o3⟩, o4⟩ := ow
        by_cases p1 : p = 3
        · subst p1
          exact fold_of_find rfl o1
        by_cases p2 : p = 10
        · subst p2
          show foldOf 8490 = _
          unfold foldOf
          rw [show ((8490 : Nat) : Int) = 8490 from rfl, o2]; exact o3
        by_cases p3 : p = 18
        · subst p3
          exact fold_of_find rfl o4
        · have e : findS ownL ⟨#[97 + p]⟩ = none := by
            unfold findS ownL
            rw [Option.map_eq_none_iff, List.find?_eq_none]
            intro a ha
            have ne : ∀ c : Nat, c ≠ 97 + p → ¬ (((⟨#[c]⟩ : Str) == ⟨#[97 + p]⟩) = true) := fun c hc q => by
              have := eq_of_beq q
              simp at this
              omega
            rcases List.mem_cons.mp ha with rfl | ha
            · exact ne 100 (by omega)
            rcases List.mem_cons.mp ha with rfl | ha
            · exact ne 107 (by omega)
            rcases List.mem_cons.mp ha with rfl | ha
            · exact ne 115 (by omega)
            · cases ha
          rw [e, Option.getD_none]
          exact fold_low hp (by omega)
      · rw [if_neg q2]
        intro _
        exact fold_low hp (by omega)
end
end L02

end
noncomputable section
open PySem PySem.W PyProof.Rows PySem.Calls Mine
set_option Elab.async false
set_option linter.unusedVariables false
set_option maxRecDepth 100000
namespace L02
noncomputable section
local macro_rules | `(tactic| ke_reads) => `(tactic| first | exact Evs.nil | (refine' Evs.cons ?_ ?_ (fun _ => rfl); ke_read; ke_reads))
local macro_rules | `(tactic| ke_read) => `(tactic| first
  | exact Ev.int _ _ _ | exact Ev.str _ _ _ | exact Ev.name rfl rfl rfl rfl
  | (refine' Ev.list ?_ ?_; ke_reads; rfl)
  | (refine' Ev.tup ?_ ?_; ke_reads; rfl)
  | (refine' Ev.bin ?_ ?_ ?_; ke_read; ke_read; rfl))
/-! _law_many -/
def rowsM : List (Nat × Str × List Str) := [(64256, "ff fi fl ffi ffl st st", ["ff", "fi", "fl", "ffi", "ffl", "st", "st"]), (13200, "hz khz mhz ghz thz", ["hz", "khz", "mhz", "ghz", "thz"]), (13239, "mv kv mv pw nw", ["mv", "kv", "mv", "pw", "nw"]),
  (13225, "pa kpa mpa gpa", ["pa", "kpa", "mpa", "gpa"]), (8480, "sm tel tm", ["sm", "tel", "tm"]), (223, "ss", ["ss"])]
def rowMPV (r : Nat × Str × List Str) : PV := .tup [.int r.1, .str r.2.1]
def manyOf (r : Nat × Str × List Str) : List (Nat × Str) := (List.range r.2.2.length).map fun j => (r.1 + j, r.2.2.getD j "")
def many : List (Nat × Str) := rowsM.flatMap manyOf
def manyPV (a : Nat × Str) : PV := .tup [signPV a.1, .str a.2]
def rowMOk (r : Nat × Str × List Str) : Bool := (Txt.split r.2.1 " " == r.2.2) && Nat.ble r.2.1.length 4096 && Nat.ble (Builtin.Str.partsBetween r.2.1 (Builtin.Str.occurrences r.2.1 " " 0 r.2.1.length (r.2.1.length + 1)) 1).length 4096 && Nat.ble r.2.2.length 4096 && Nat.ble r.1 100000
theorem rowsM_ok : rowsM.all rowMOk = true := by decide +kernel
theorem one_len : (" " : Str).length = 1 := by decide +kernel
theorem split_ok {P : Par} {k : Nat} {r : Nat × Str × List Str} (hr : r ∈ rowsM) : Cal P k (.builtin "str.split") [.str r.2.1, .str " "] (.list (r.2.2.map PV.str)) ∧ r.2.2.length ≤ 4096 ∧ r.1 ≤ 100000 := by
  have := List.all_eq_true.mp rowsM_ok r hr
  simp only [rowMOk, Bool.and_eq_true, beq_iff_eq] at this
  obtain ⟨⟨⟨⟨h1, h2⟩, h3⟩, h4⟩, h5⟩ := this
  exact ⟨Cal.split (by decide +kernel) h1 (Nat.le_of_ble_eq_true h2) (by rw [one_len]; exact Nat.le_of_ble_eq_true h3), Nat.le_of_ble_eq_true h4, Nat.le_of_ble_eq_true h5⟩
theorem split_ev {P : Par} {k : Nat} {sc : Scope} {n : Nm} {r : Nat × Str × List Str} (hr : r ∈ rowsM) {o e : Expr} {ap pos : Pos} (h1 : Ev P k sc n o (.str r.2.1)) (h2 : Ev P k sc n e (.str " ")) (he : ∀ env, starEach [e] env = (false, eval e env) :: starEach [] env)
    (hm : ∀ env, ∃ pl, eval (.Call (.Attribute o "split" ap) [e] [] pos) env = (do let ov ← eval o env; standAt ap.atName; let (f, first) ← holding [ov] (getMethod ov "split" pl); callWith pos f first (backTo pos (starEach [e] env)) [])) :
    Ev P k sc n (.Call (.Attribute o "split" ap) [e] [] pos) (.list (r.2.2.map PV.str)) :=
  Ev.bmeth h1 (Evs.cons h2 Evs.nil he) PySem.F.plainAttrs_str PySem.F.slot_str_split PySem.F.type_str_split (.inl ⟨_, rfl, rfl⟩) (split_ok hr).1 he (fun _ _ => rfl) hm
theorem many_ok (w : World) : Cal (Gd w) 1 (.ref ad_many) [] (.list (many.map manyPV)) := by
  refine Cal.fn (k := 0) (fn_many w) rfl ?_
  refine Ex.cons (n₁ := ⟨[("rows", .list ((rowsM.take 3).map rowMPV))], none, none⟩) (Ex1.assign (d := .list ((rowsM.take 3).map rowMPV)) (by ke_read) rfl (fun _ => rfl)) ?_
  refine Ex.cons (n₁ := ⟨[("rows", .list (rowsM.map rowMPV))], none, none⟩) (Ex1.assign (d := .list ((rowsM.take 3).map rowMPV ++ (rowsM.drop 3).map rowMPV)) (Ev.addL (Ev.name rfl rfl rfl rfl) (by ke_read) (by decide)) rfl (fun _ => rfl)) ?_
  have hT : ∀ (a : Nat × Str × List Str) (n : Nm), (n = ⟨[("first", .int a.1), ("row", .str a.2.1)], none, none⟩ ∨ ∃ c, n = ⟨[("first", .int a.1), ("row", .str a.2.1), ("k", c)], none, none⟩) → n.ρ.lookup ("first" : Str) = some (.int a.1) ∧ n.ρ.lookup ("row" : Str) = some (.str a.2.1) := fun a n hn => by
    rcases hn with rfl | ⟨c, rfl⟩ <;> exact ⟨rfl, rfl⟩
  have hc := Cp2.flatM (P := Gd w) (k := 0) (sc := relab (aLC2 (aRet0 (stAt bd_many 2))) fd_many.scope) (elt := aLC0 (aRet0 (stAt bd_many 2)))
    (t₀ := aC0 (cpAt (aLC1 (aRet0 (stAt bd_many 2))) 0)) (t := aC0 (cpAt (aLC1 (aRet0 (stAt bd_many 2))) 1)) (iter := aC1 (cpAt (aLC1 (aRet0 (stAt bd_many 2))) 1))
    (g := rowMPV) (h := fun a => (List.range a.2.2.length)) (q := fun (c : Nat) => PV.int c) (f := fun a j => manyPV (a.1 + j, a.2.2.getD j ""))
    (S := fun n => n = ⟨[], none, none⟩ ∨ ∃ (a : Nat × Str × List Str), n = ⟨[("first", .int a.1), ("row", .str a.2.1)], none, none⟩ ∨ ∃ c, n = ⟨[("first", .int a.1), ("row", .str a.2.1), ("k", c)], none, none⟩)
    (T := fun a n => n = ⟨[("first", .int a.1), ("row", .str a.2.1)], none, none⟩ ∨ ∃ c, n = ⟨[("first", .int a.1), ("row", .str a.2.1), ("k", c)], none, none⟩)
    rowsM
    (fun n hn a _ => by
      rcases hn with rfl | ⟨a', rfl | ⟨c, rfl⟩⟩
      · exact ⟨_, rfl, .inl rfl⟩
      · exact ⟨_, rfl, .inl rfl⟩
      · exact ⟨_, rfl, .inr ⟨c, rfl⟩⟩)
    (fun a ha n hn => by
      obtain ⟨_, q2⟩ := hT a n hn
      obtain ⟨_, s1, s2⟩ := split_ok (P := Gd w) (k := 0) ha
      have e := nums_eq 0 a.2.2.length
      have e' : (fun (j : Nat) => 0 + j) = fun j => j := by funext j; omega
      rw [Nat.sub_zero, e', List.map_id'] at e
      rw [← e]
      have ln : ((a.2.2.length : Nat) : Int) = (((a.2.2.map PV.str).length : Nat) : Int) := by rw [List.length_map]
      refine Src.range1 rfl (glb_range w) rfl (Evs.cons ?_ Evs.nil (fun _ => rfl)) (smallI_of (by omega)) (fun _ => rfl)
      rw [ln]
      exact Ev.callB rfl (glb_len w) rfl (Evs.cons (split_ev ha (Ev.name rfl q2 rfl rfl) (Ev.str _ _ _) (fun _ => rfl) (fun _ => ⟨_, rfl⟩)) Evs.nil (fun _ => rfl)) (Cal.lenL (small_of (by rw [List.length_map]; omega))) (fun _ => rfl) (fun _ _ => rfl))
    (fun a ha n hn b hb => by
      obtain ⟨_, s1, s2⟩ := split_ok (P := Gd w) (k := 0) ha
      have hb' := List.mem_range.mp hb
      have key : ∀ n : Nm, n.ρ.lookup ("first" : Str) = some (.int a.1) → n.ρ.lookup ("row" : Str) = some (.str a.2.1) → n.ρ.lookup ("k" : Str) = some (.int (b : Nat)) → Ev (Gd w) 0 (relab (aLC2 (aRet0 (stAt bd_many 2))) fd_many.scope) n (aLC0 (aRet0 (stAt bd_many 2))) (manyPV (a.1 + b, a.2.2.getD b "")) := fun n q1 q2 q3 => by
        refine Ev.tup (Evs.cons ?_ (Evs.cons ?_ Evs.nil (fun _ => rfl)) (fun _ => rfl)) rfl
        · have e : signPV (a.1 + b) = .str ⟨#[((a.1 : Int) + (b : Int)).toNat]⟩ := by unfold signPV; congr
          rw [e]
          exact Ev.callB rfl (glb_chr w) rfl (Evs.cons (Ev.addI (Ev.name rfl q1 rfl rfl) (Ev.name rfl q3 rfl rfl)) Evs.nil (fun _ => rfl)) (Cal.chr (by omega) (by omega)) (fun _ => rfl) (fun _ _ => rfl)
        · refine Ev.at (j := (b : Nat)) (split_ev ha (Ev.name rfl q2 rfl rfl) (Ev.str _ _ _) (fun _ => rfl) (fun _ => ⟨_, rfl⟩)).w (Ev.name rfl q3 rfl rfl) (by omega) (by omega) ?_
          rw [Int.toNat_natCast, List.getElem?_map, List.getD_eq_getElem?_getD, List.getElem?_eq_getElem hb']
          rfl
      rcases hn with rfl | ⟨c, rfl⟩
      · exact ⟨_, rfl, .inr ⟨_, rfl⟩, key _ rfl rfl rfl⟩
      · exact ⟨_, rfl, .inr ⟨_, rfl⟩, key _ rfl rfl rfl⟩)
    (fun a n hn => .inr ⟨a, hn⟩) ⟨[], none, none⟩ (.inl rfl)
  obtain ⟨n', hc⟩ := hc
  have e : (rowsM.flatMap fun a => (List.range a.2.2.length).map fun j => manyPV (a.1 + j, a.2.2.getD j "")) = many.map manyPV := by
    unfold many
    rw [List.map_flatMap]
    congr 1
    funext a
    unfold manyOf
    rw [List.map_map]; rfl
  rw [e] at hc
  exact Ex.ret (Ex1.ret (Ev.comp (by decide +kernel) (Src.list (Ev.name rfl rfl rfl rfl)) (fun _ _ => rfl) (LoopOk.two rfl rfl (fun _ _ => rfl) hc rfl)))
end
end L02

end
noncomputable section
open PySem PySem.W PyProof.Rows PySem.Calls Mine
set_option Elab.async false
set_option linter.unusedVariables false
set_option maxRecDepth 100000
namespace L02
noncomputable section
/-! texts by their signs -/
def tx (l : List Nat) : Str := ⟨l.toArray⟩
theorem tx_list (l : List Nat) : (tx l).cps.toList = l := by simp [tx]
theorem tx_size (l : List Nat) : (tx l).cps.size = l.length := by simp [tx]
theorem tx_len (l : List Nat) : (tx l).length = l.length := tx_size l
theorem tx_app (a b : List Nat) : tx a ++ tx b = tx (a ++ b) := by
  show Str.mk (a.toArray ++ b.toArray) = Str.mk (a ++ b).toArray
  rw [List.append_toArray]
theorem tx_nil : ("" : Str) = tx [] := by decide +kernel
theorem tx_signs (l : List Nat) : Mine.signs (tx l) = l.map signPV := by unfold Mine.signs; rw [tx_list]; rfl
theorem tx_of (x : Str) : x = tx x.cps.toList := by obtain ⟨a⟩ := x; simp [tx]
theorem fmod_range (x : Int) {k : Int} (hk : 0 < k) : 0 ≤ x.fmod k ∧ x.fmod k < k := ⟨Int.fmod_nonneg_of_pos _ hk, Int.fmod_lt_of_pos _ hk⟩
/-! _law_sign -/
theorem nothing_len : nothing.length = 27 := by decide +kernel
/-- the sign of a letter and a number -/
def codeOf (c : Nat) (x : Int) : Nat := (codeI (c - 97) (x.fmod 17).toNat).toNat
def signL (c : Nat) (x : Int) : List Nat := (if x.fmod 7 < 3 then [nothing.getD (x.fmod 27).toNat 0] else []) ++ [codeOf c x]
theorem signL_len (c : Nat) (x : Int) : (signL c x).length ≤ 2 := by unfold signL; split <;> simp
theorem nothing_at (x : Int) : (nothing.map signPV)[(x.fmod 27).toNat]? = some (.str (tx [nothing.getD (x.fmod 27).toNat 0])) := by
  have h := fmod_range x (k := 27) (by decide)
  have hl : (x.fmod 27).toNat < nothing.length := by rw [nothing_len]; omega
  rw [List.getElem?_map, List.getD_eq_getElem?_getD, List.getElem?_eq_getElem hl]; rfl
theorem sign_ok (w : World) (c : Nat) (x : Int) (h1 : 97 ≤ c) (h2 : c ≤ 122) : Cal (Gd w) 1 (.ref ad_sign) [.str (tx [c]), .int x, .list (nothing.map signPV)] (.str (tx (signL c x))) := by
  have h17 := fmod_range x (k := 17) (by decide)
  have h7 := fmod_range x (k := 7) (by decide)
  have h27 := fmod_range x (k := 27) (by decide)
  obtain ⟨p, hp, rfl⟩ : ∃ p, p < 26 ∧ c = 97 + p := ⟨c - 97, by omega, by omega⟩
  obtain ⟨v, hv, ev⟩ : ∃ v : Nat, v < 17 ∧ x.fmod 17 = (v : Int) := ⟨(x.fmod 17).toNat, by omega, by omega⟩
  have ok := code_ok hp hv
  have ec : codeOf (97 + p) x = (codeI p v).toNat := by unfold codeOf; rw [ev, Int.toNat_natCast, show 97 + p - 97 = p by omega]
  refine Cal.fn (k := 0) (fn_sign w) rfl ?_
  refine Ex.cons (n₁ := ⟨[("letter", .str (tx [97 + p])), ("x", .int x), ("nothing", .list (nothing.map signPV)), ("place", .int (p : Nat))], none, none⟩) (Ex1.assign ?_ rfl (fun _ => rfl)) ?_
  · have e : ((p : Nat) : Int) = ((97 + p : Nat) : Int) - 97 := by omega
    rw [e]
    exact Ev.subI (Ev.callB rfl (glb_ord w) rfl (Evs.cons (Ev.name rfl rfl rfl rfl) Evs.nil (fun _ => rfl)) Cal.ord (fun _ => rfl) (fun _ _ => rfl)) (Ev.int _ _ _)
  refine Ex.cons (n₁ := ⟨[("letter", .str (tx [97 + p])), ("x", .int x), ("nothing", .list (nothing.map signPV)), ("place", .int (p : Nat)), ("way", .int (v : Nat))], none, none⟩) (Ex1.assign ?_ rfl (fun _ => rfl)) ?_
  · rw [← ev]
    exact Ev.modI (Ev.name rfl rfl rfl rfl) (Ev.int _ _ _) (by decide)
  refine Ex.cons (n₁ := ⟨[("letter", .str (tx [97 + p])), ("x", .int x), ("nothing", .list (nothing.map signPV)), ("place", .int (p : Nat)), ("way", .int (v : Nat)), ("code", .int (rawI p v))], none, none⟩) (Ex1.assign ?_ rfl (fun _ => rfl)) ?_
  · exact Ev.addI (Ev.addI (Ev.int _ _ _) (Ev.mulI (Ev.int _ _ _) (Ev.name rfl rfl rfl rfl) (by decide))) (Ev.name rfl rfl rfl rfl)
  refine Ex.cons (n₁ := ⟨[("letter", .str (tx [97 + p])), ("x", .int x), ("nothing", .list (nothing.map signPV)), ("place", .int (p : Nat)), ("way", .int (v : Nat)), ("code", .int (rawI p v)), ("gaps", .tab gapsL)], none, none⟩) (Ex1.assign (d := .tab gapsL) ?_ rfl (fun _ => rfl)) ?_
  · exact Ev.dictI (c0 := gaps0) (last := gaps1) (by kernel_rfl) rfl (by decide) (by decide) (by decide +kernel) (at_sign w.params) (by decide)
  refine Ex.cons (n₁ := ⟨[("letter", .str (tx [97 + p])), ("x", .int x), ("nothing", .list (nothing.map signPV)), ("place", .int (p : Nat)), ("way", .int (v : Nat)), ("code", .int (codeI p v)), ("gaps", .tab gapsL)], none, none⟩) ?_ ?_
  · unfold codeI
    by_cases q : v < 13
    · rw [if_pos q]
      refine Ex1.ifT (Tv.lt (a := (v : Nat)) (Ev.name rfl rfl rfl rfl) (Ev.int _ _ _) (decide_eq_true (by omega)) rfl) (Ex.cons (Ex1.assign ?_ rfl (fun _ => rfl)) Ex.nil)
      exact Ev.tget (Ev.name rfl rfl rfl rfl) (Evs.cons (Ev.name rfl rfl rfl rfl) (Evs.cons (Ev.name rfl rfl rfl rfl) Evs.nil (fun _ => rfl)) (fun _ => rfl)) (fun _ => rfl) (fun _ _ => rfl) (fun _ => ⟨_, rfl⟩)
    · rw [if_neg q]
      refine Ex1.ifF (Tv.lt (a := (v : Nat)) (Ev.name rfl rfl rfl rfl) (Ev.int _ _ _) (decide_eq_false (by omega)) rfl) (Ex.cons ?_ Ex.nil)
      have eqV : ∀ j : Nat, cmpPV .Eq (.int (v : Nat)) (.int j) = some (decide (v = j)) := fun j => by
        show eqPV (.int (v : Nat)) (.int (j : Nat)) = some _
        rw [eqInt]
        congr 1
        rw [Bool.eq_iff_iff, beq_iff_eq, decide_eq_true_iff]
        omega
      by_cases q1 : v = 13
      · rw [if_pos q1]
        refine Ex1.ifT (Tv.cmp (Ev.name rfl rfl rfl rfl) (Ev.int _ _ _) ((eqV 13).trans (congrArg some (decide_eq_true q1))) rfl) (Ex.cons (Ex1.assign ?_ rfl (fun _ => rfl)) Ex.nil)
        exact Ev.addI (Ev.int _ _ _) (Ev.name rfl rfl rfl rfl)
      · rw [if_neg q1]
        refine Ex1.ifF (Tv.cmp (Ev.name rfl rfl rfl rfl) (Ev.int _ _ _) ((eqV 13).trans (congrArg some (decide_eq_false q1))) rfl) (Ex.cons ?_ Ex.nil)
        by_cases q2 : v = 14
        · rw [if_pos q2]
          refine Ex1.ifT (Tv.cmp (Ev.name rfl rfl rfl rfl) (Ev.int _ _ _) ((eqV 14).trans (congrArg some (decide_eq_true q2))) rfl) (Ex.cons (Ex1.assign ?_ rfl (fun _ => rfl)) Ex.nil)
          exact Ev.disp3 (u := ⟨#[97 + p]⟩) rfl (by decide +kernel) (by decide +kernel) (by decide +kernel) (at_sign w.params) (by decide) (Evs.cons (Ev.name rfl rfl rfl rfl) (Evs.cons (Ev.addI (Ev.int _ _ _) (Ev.name rfl rfl rfl rfl)) Evs.nil (fun _ => rfl)) (fun _ => rfl)) (fun _ => rfl) (fun _ _ => rfl) (fun _ => ⟨_, rfl⟩)
        · rw [if_neg q2]
          refine Ex1.ifF (Tv.cmp (Ev.name rfl rfl rfl rfl) (Ev.int _ _ _) ((eqV 14).trans (congrArg some (decide_eq_false q2))) rfl) (Ex.cons (Ex1.assign ?_ rfl (fun _ => rfl)) Ex.nil)
          exact Ev.addI (Ev.int _ _ _) (Ev.name rfl rfl rfl rfl)
  have hchr : ∀ {n : Nm} {p₁ p₂ pos : Pos}, n.ρ.lookup ("code" : Str) = some (.int (codeI p v)) → Ev (Gd w) 0 fd_sign.scope n (.Call (.Name "chr" p₁) [.Name "code" p₂] [] pos) (.str (tx [(codeI p v).toNat])) := fun {n p₁ p₂ pos} hn =>
    Ev.callB rfl (glb_chr w) rfl (Evs.cons (Ev.name rfl hn rfl rfl) Evs.nil (fun _ => rfl)) (Cal.chr ok.nn ok.le) (fun _ => rfl) (fun _ _ => rfl)
  unfold signL
  rw [ec]
  by_cases q : x.fmod 7 < 3
  · rw [if_pos q]
    refine Ex.ret (Ex1.ifT (Tv.lt (Ev.modI (Ev.name rfl rfl rfl rfl) (Ev.int _ _ _) (by decide)) (Ev.int _ _ _) (decide_eq_true q) rfl) (Ex.ret (Ex1.ret ?_)))
    rw [← tx_app]
    refine Ev.addS (Ev.at (Ev.name rfl rfl rfl rfl).w (Ev.modI (Ev.name rfl rfl rfl rfl) (Ev.int _ _ _) (by decide)) h27.1 (by omega) (nothing_at x)) (hchr rfl) (by simp [tx_len])
  · rw [if_neg q]
    refine Ex.cons (Ex1.ifF (Tv.lt (Ev.modI (Ev.name rfl rfl rfl rfl) (Ev.int _ _ _) (by decide)) (Ev.int _ _ _) (decide_eq_false q) rfl) Ex.nil) (Ex.ret (Ex1.ret ?_))
    exact hchr rfl
end
end L02

end
noncomputable section
open PySem PySem.W PyProof.Rows PySem.Calls Mine
set_option Elab.async false
set_option linter.unusedVariables false
set_option maxRecDepth 100000
namespace L02
noncomputable section
/-! _law_word -/
theorem glb_many (w : World) : Glb (Gd w) "_law_many" (.ref ad_many) := .inl (by kernel_rfl)
theorem glb_nothing (w : World) : Glb (Gd w) "_law_nothing" (.ref ad_nothing) := .inl (by kernel_rfl)
theorem glb_sign (w : World) : Glb (Gd w) "_law_sign" (.ref ad_sign) := .inl (by kernel_rfl)
theorem glb_word (w : World) : Glb (Gd w) "_law_word" (.ref ad_word) := .inl (by kernel_rfl)
theorem glb_spelled (w : World) : Glb (Gd w) "_law_spelled" (.ref ad_spelled) := .inl (by kernel_rfl)
theorem glb_prepared (w : World) : Glb (Gd w) "_law_prepared" (.ref ad_prepared) := .inl (by kernel_rfl)
theorem glb_column (w : World) : Glb (Gd w) "_law_column" (.ref ad_column) := .inl (by kernel_rfl)
theorem glb_inb1 (w : World) : Glb (Gd w) "in_table_b1" (.ref ad_in_table_b1) := .inl (by kernel_rfl)
theorem glb_mapb3 (w : World) : Glb (Gd w) "map_table_b3" (.ref ad_map_table_b3) := .inl (by kernel_rfl)
def manyAt (x : Int) : Nat × Str := many.getD (x.fmod 25).toNat (0, "")
def manyOk (a : Nat × Str) : Bool := Nat.ble 1 a.2.cps.size && Nat.ble a.2.cps.size 3 && (a.2.cps.toList.all fun c => Nat.ble 97 c && Nat.ble c 122) && !inB1 a.1 && (foldOf a.1 == a.2)
theorem many_all : many.all manyOk = true := by kernel_rfl
theorem many_len : many.length = 25 := by decide +kernel
theorem many_get (x : Int) : many[(x.fmod 25).toNat]? = some (manyAt x) := by
  have h := fmod_range x (k := 25) (by decide)
  have hl : (x.fmod 25).toNat < many.length := by rw [many_len]; omega
  unfold manyAt
  rw [List.getD_eq_getElem?_getD, List.getElem?_eq_getElem hl]; rfl
structure ManyOk (a : Nat × Str) : Prop where
  ge : 1 ≤ a.2.cps.toList.length
  le : a.2.cps.toList.length ≤ 3
  abc : ∀ c ∈ a.2.cps.toList, 97 ≤ c ∧ c ≤ 122
  out : inB1 a.1 = false
  fold : foldOf a.1 = a.2
theorem many_at (x : Int) : ManyOk (manyAt x) := by
  have h := List.all_eq_true.mp many_all _ (List.mem_of_getElem? (many_get x))
  simp only [manyOk, Bool.and_eq_true, Bool.not_eq_true', beq_iff_eq, List.all_eq_true] at h
  obtain ⟨⟨⟨⟨h1, h2⟩, h3⟩, h4⟩, h5⟩ := h
  exact ⟨Nat.le_of_ble_eq_true h1, Nat.le_of_ble_eq_true h2, fun c hc => ⟨Nat.le_of_ble_eq_true (h3 c hc).1, Nat.le_of_ble_eq_true (h3 c hc).2⟩, h4, h5⟩
def abcOf (x : Int) : Nat := 97 + (x.fmod 26).toNat
theorem abc_range (x : Int) : 97 ≤ abcOf x ∧ abcOf x ≤ 122 := by
  have h := fmod_range x (k := 26) (by decide)
  unfold abcOf; omega
def spOne (x : Int) : List Nat := if x.fmod 11 = 0 then [(manyAt x).1] else signL (abcOf x) x
def ltOne (x : Int) : List Nat := if x.fmod 11 = 0 then (manyAt x).2.cps.toList else [abcOf x]
def wordSp (xs : List Int) : List Nat := xs.flatMap spOne
def wordLt (xs : List Int) : List Nat := xs.flatMap ltOne
theorem spOne_len (x : Int) : (spOne x).length ≤ 2 := by unfold spOne; split; simp; exact signL_len _ _
theorem ltOne_len (x : Int) : 1 ≤ (ltOne x).length ∧ (ltOne x).length ≤ 3 := by
  unfold ltOne
  split
  · exact ⟨(many_at x).ge, (many_at x).le⟩
  · simp
theorem ltOne_abc (x : Int) : ∀ c ∈ ltOne x, 97 ≤ c ∧ c ≤ 122 := by
  unfold ltOne
  split
  · exact (many_at x).abc
  · intro c hc; simp at hc; subst hc; exact abc_range x
theorem flat_len {α : Type} (f : α → List Nat) (k : Nat) (h : ∀ a, (f a).length ≤ k) : ∀ l : List α, (l.flatMap f).length ≤ k * l.length
  | [] => by simp
  | a :: l => by
    have h1 := h a
    have h2 := flat_len f k h l
    rw [List.flatMap_cons, List.length_append, List.length_cons, Nat.mul_add]
    omega
theorem wordSp_len (xs : List Int) : (wordSp xs).length ≤ 2 * xs.length := flat_len spOne 2 spOne_len xs
theorem wordLt_len (xs : List Int) : (wordLt xs).length ≤ 3 * xs.length := flat_len ltOne 3 (fun x => (ltOne_len x).2) xs
theorem wordLt_abc (xs : List Int) : ∀ c ∈ wordLt xs, 97 ≤ c ∧ c ≤ 122 := fun c hc => by
  obtain ⟨x, _, hx⟩ := List.mem_flatMap.mp hc
  exact ltOne_abc x c hx
theorem wordSp_snoc (xs : List Int) (x : Int) : wordSp (xs ++ [x]) = wordSp xs ++ spOne x := by simp [wordSp]
theorem wordLt_snoc (xs : List Int) (x : Int) : wordLt (xs ++ [x]) = wordLt xs ++ ltOne x := by simp [wordLt]
def nothPV : PV := .list (nothing.map signPV)
def nmW (N : PV) (sp lt : List Nat) (more : List (Str × PV)) : Nm := ⟨([("numbers", N), ("nothing", nothPV), ("many", .list (many.map manyPV)), ("spelling", .str (tx sp)), ("letters", .str (tx lt))] : List (Str × PV)) ++ more, none, none⟩
def bdW : List Stmt := aFor2 (stAt bd_word 3)
theorem many_ev {w : World} {n : Nm} {e : Expr} {x : Int} {pos : Pos} {i : Expr} (h1 : Ev (Gd w) 1 fd_word.scope n e (.list (many.map manyPV))) (h2 : Ev (Gd w) 1 fd_word.scope n i (.int (x.fmod 25))) : Ev (Gd w) 1 fd_word.scope n (.Subscript e i pos) (manyPV (manyAt x)) := by
  have h := fmod_range x (k := 25) (by decide)
  refine Ev.at h1.w h2 h.1 (by omega) ?_
  rw [List.getElem?_map, many_get]; rfl
theorem turnW_ok (w : World) (N : PV) (xs : List Int) (x : Int) (hz : xs.length ≤ 100) : Ex (Gd w) 1 fd_word.scope (nmW N (wordSp xs) (wordLt xs) [("x", .int x)]) bdW (.next (nmW N (wordSp (xs ++ [x])) (wordLt (xs ++ [x])) [("x", .int x)])) := by
  have l1 := wordSp_len xs
  have l2 := wordLt_len xs
  have l3 := spOne_len x
  have l4 := ltOne_len x
  have h26 := fmod_range x (k := 26) (by decide)
  have ha := abc_range x
  have eqV : ∀ j : Int, cmpPV .Eq (.int j) (.int 0) = some (decide (j = 0)) := fun j => by
    show eqPV (.int j) (.int 0) = some _
    rw [eqInt]; rfl
  rw [wordSp_snoc, wordLt_snoc]
  refine Ex.cons ?_ Ex.nil
  by_cases q : x.fmod 11 = 0
  · refine Ex1.ifT (Tv.cmp (Ev.modI (Ev.name rfl rfl rfl rfl) (Ev.int _ _ _) (by decide)) (Ev.int _ _ _) ((eqV _).trans (congrArg some (decide_eq_true q))) rfl) ?_
    have e1 : spOne x = [(manyAt x).1] := by unfold spOne; rw [if_pos q]
    have e2 : ltOne x = (manyAt x).2.cps.toList := by unfold ltOne; rw [if_pos q]
    refine Ex.cons (n₁ := nmW N (wordSp xs ++ spOne x) (wordLt xs) [("x", .int x)]) (Ex1.assign (d := .str (tx (wordSp xs ++ spOne x))) ?_ rfl (fun _ => rfl)) ?_
    · rw [← tx_app, e1]
      exact Ev.addS (Ev.name rfl rfl rfl rfl) (Ev.atT (xs := [signPV (manyAt x).1, .str (manyAt x).2]) (many_ev (Ev.name rfl rfl rfl rfl) (Ev.modI (Ev.name rfl rfl rfl rfl) (Ev.int _ _ _) (by decide))) (Ev.int 0 _ _) (by decide) (by decide) rfl) (by rw [tx_len, tx_len, List.length_singleton]; omega)
    refine Ex.cons (n₁ := nmW N (wordSp xs ++ spOne x) (wordLt xs ++ ltOne x) [("x", .int x)]) (Ex1.assign (d := .str (tx (wordLt xs ++ ltOne x))) ?_ rfl (fun _ => rfl)) Ex.nil
    · rw [← tx_app, e2, ← tx_of]
      exact Ev.addS (Ev.name rfl rfl rfl rfl) (Ev.atT (xs := [signPV (manyAt x).1, .str (manyAt x).2]) (j := 1) (many_ev (Ev.name rfl rfl rfl rfl) (Ev.modI (Ev.name rfl rfl rfl rfl) (Ev.int _ _ _) (by decide))) (Ev.int 1 _ _) (by decide) (by decide) rfl) (by rw [e2] at l4; rw [tx_len]; show _ + (manyAt x).2.cps.size ≤ _; rw [Array.length_toList] at l4; omega)
  · refine Ex1.ifF (Tv.cmp (Ev.modI (Ev.name rfl rfl rfl rfl) (Ev.int _ _ _) (by decide)) (Ev.int _ _ _) ((eqV _).trans (congrArg some (decide_eq_false q))) rfl) ?_
    have e1 : spOne x = signL (abcOf x) x := by unfold spOne; rw [if_neg q]
    have e2 : ltOne x = [abcOf x] := by unfold ltOne; rw [if_neg q]
    have hchr : ∀ {sp : List Nat} {p₁ p₂ p₃ p₄ p₅ p₆ pos : Pos} {j₁ j₂ : Nat}, Ev (Gd w) 1 fd_word.scope (nmW N sp (wordLt xs) [("x", .int x)]) (.Call (.Name "chr" p₁) [.BinOp (.Constant (.int 97) j₁ p₂) .Add (.BinOp (.Name "x" p₃) .Mod (.Constant (.int 26) j₂ p₄) p₅) p₆] [] pos) (.str (tx [abcOf x])) := fun {sp p₁ p₂ p₃ p₄ p₅ p₆ pos j₁ j₂} => by
      have e : tx [abcOf x] = ⟨#[(97 + x.fmod 26).toNat]⟩ := by
        have : abcOf x = (97 + x.fmod 26).toNat := by unfold abcOf; omega
        rw [this]; rfl
      rw [e]
      exact Ev.callB rfl (glb_chr w) rfl (Evs.cons (Ev.addI (Ev.int _ _ _) (Ev.modI (Ev.name rfl rfl rfl rfl) (Ev.int _ _ _) (by decide))) Evs.nil (fun _ => rfl)) (Cal.chr (by omega) (by omega)) (fun _ => rfl) (fun _ _ => rfl)
    refine Ex.cons (n₁ := nmW N (wordSp xs ++ spOne x) (wordLt xs) [("x", .int x)]) (Ex1.assign (d := .str (tx (wordSp xs ++ spOne x))) ?_ rfl (fun _ => rfl)) ?_
    · rw [← tx_app, e1]
      refine Ev.addS (Ev.name rfl rfl rfl rfl) (Ev.callF rfl (glb_sign w) rfl (at_sign w.params) rfl (Evs.cons hchr (Evs.cons (Ev.name rfl rfl rfl rfl) (Evs.cons (Ev.name rfl rfl rfl rfl) Evs.nil (fun _ => rfl)) (fun _ => rfl)) (fun _ => rfl)) (sign_ok w (abcOf x) x ha.1 ha.2) (fun _ => rfl)) (by rw [e1] at l3; rw [tx_len, tx_len]; omega)
    refine Ex.cons (n₁ := nmW N (wordSp xs ++ spOne x) (wordLt xs ++ ltOne x) [("x", .int x)]) (Ex1.assign (d := .str (tx (wordLt xs ++ ltOne x))) ?_ rfl (fun _ => rfl)) Ex.nil
    · rw [← tx_app, e2]
      exact Ev.addS (Ev.name rfl rfl rfl rfl) hchr (by rw [tx_len, tx_len, List.length_singleton]; omega)
theorem loopW_ok (w : World) (N : PV) : ∀ (ys xs : List Int) (n : Nm), (n = nmW N (wordSp xs) (wordLt xs) [] ∨ ∃ x, n = nmW N (wordSp xs) (wordLt xs) [("x", x)]) → xs.length + ys.length ≤ 100 →
    ∃ n', Lp (Gd w) 1 fd_word.scope (aFor0 (stAt bd_word 3)) bdW n (ys.map PV.int) (.next n') ∧ (n' = nmW N (wordSp (xs ++ ys)) (wordLt (xs ++ ys)) [] ∨ ∃ x, n' = nmW N (wordSp (xs ++ ys)) (wordLt (xs ++ ys)) [("x", x)])
  | [], xs, n, hn, _ => ⟨n, .nil, by rw [List.append_nil]; exact hn⟩
  | y :: ys, xs, n, hn, hz => by
    rw [List.length_cons] at hz
    obtain ⟨n', h1, h2⟩ := loopW_ok w N ys (xs ++ [y]) _ (.inr ⟨.int y, rfl⟩) (by rw [List.length_append, List.length_singleton]; omega)
    rw [List.append_assoc, List.singleton_append] at h2
    refine ⟨n', ?_, h2⟩
    rw [List.map_cons]
    rcases hn with rfl | ⟨x, rfl⟩
    · exact .cons rfl (turnW_ok w N xs y (by omega)) h1
    · exact .cons rfl (turnW_ok w N xs y (by omega)) h1
theorem word_ok (w : World) (xs : List Int) (hz : xs.length ≤ 100) : Cal (Gd w) 2 (.ref ad_word) [.list (xs.map PV.int), nothPV] (.tup [.str (tx (wordSp xs)), .str (tx (wordLt xs))]) := by
  refine Cal.fn (k := 1) (fn_word w) rfl ?_
  refine Ex.cons (Ex1.assign (d := .list (many.map manyPV)) (Ev.callF0 rfl (glb_many w) rfl (at_many w.params) rfl ((many_ok w).le (by decide))) rfl (fun _ => rfl)) ?_
  refine Ex.cons (Ex1.assign (d := .str (tx [])) (by rw [← tx_nil]; exact Ev.str _ _ _) rfl (fun _ => rfl)) ?_
  refine Ex.cons (n₁ := nmW (.list (xs.map PV.int)) (wordSp []) (wordLt []) []) (Ex1.assign (d := .str (tx [])) (by rw [← tx_nil]; exact Ev.str _ _ _) rfl (fun _ => rfl)) ?_
  obtain ⟨n', h1, h2⟩ := loopW_ok w (.list (xs.map PV.int)) xs [] _ (.inl rfl) (by simpa using hz)
  rw [List.nil_append] at h2
  refine Ex.cons (Ex1.for (Src.list (Ev.name rfl rfl rfl rfl)) h1 (fun _ _ => rfl)) ?_
  rcases h2 with rfl | ⟨x, rfl⟩
  · exact Ex.ret (Ex1.ret (Ev.tup (Evs.cons (Ev.name rfl rfl rfl rfl) (Evs.cons (Ev.name rfl rfl rfl rfl) Evs.nil (fun _ => rfl)) (fun _ => rfl)) rfl))
  · exact Ex.ret (Ex1.ret (Ev.tup (Evs.cons (Ev.name rfl rfl rfl rfl) (Evs.cons (Ev.name rfl rfl rfl rfl) Evs.nil (fun _ => rfl)) (fun _ => rfl)) rfl))
end
end L02

end
noncomputable section
open PySem PySem.W PyProof.Rows PySem.Calls Mine
set_option Elab.async false
set_option linter.unusedVariables false
set_option maxRecDepth 100000
namespace L02
noncomputable section
theorem join_any : ∀ ss : List Str, (Txt.join ("" : Str) ss).cps.toList = ss.flatMap fun x => x.cps.toList := by
  intro ss
  show (Builtin.Str.glued _ _).cps.toList = _
  rw [StrLaws.glued_eq_join]
  induction ss with
  | nil => rfl
  | cons x ss ih =>
    cases ss with
    | nil => simp [Str.join]
    | cons y ss =>
      show ((x ++ ("" : Str)) ++ Str.join ("" : Str) (y :: ss)).cps.toList = _
      show ((x.cps ++ (Str.ofString "").cps) ++ (Str.join ("" : Str) (y :: ss)).cps).toList = _
      rw [show (Str.ofString "").cps = #[] by rfl, Array.toList_append, ih]
      simp
theorem join_tx {α : Type} (f : α → List Nat) (l : List α) : Txt.join ("" : Str) (l.map fun a => tx (f a)) = tx (l.flatMap f) := by
  rw [tx_of (Txt.join _ _), join_any, List.flatMap_map]
  simp only [tx_list]
theorem sum_len {α : Type} (f : α → List Nat) (k : Nat) : ∀ l : List α, (∀ a ∈ l, (f a).length ≤ k) → ((l.map fun a => tx (f a)).map (·.length)).sum ≤ k * l.length
  | [], _ => by simp
  | a :: l, h => by
    have h1 := h a (.head _)
    have h2 := sum_len f k l fun x hx => h x (.tail _ hx)
    rw [List.map_cons, List.map_cons, List.sum_cons, List.length_cons, Nat.mul_add, tx_len]
    omega
theorem empty_len : ("" : Str).length = 0 := by decide +kernel
/-- ''.join of texts that are known -/
theorem join_ok {P : Par} {k : Nat} {α : Type} (f : α → List Nat) (l : List α) (m : Nat) (hf : ∀ a ∈ l, (f a).length ≤ m) (hz : m * l.length ≤ 100000) : Cal P k (.builtin "str.join") [.str "", .list (l.map fun a => PV.str (tx (f a)))] (.str (tx (l.flatMap f))) := by
  have h := Cal.join (P := P) (k := k) (x := "") (ys := l.map fun a => tx (f a)) (by
    have := sum_len f m l hf
    rw [empty_len]; omega)
  rw [join_tx, List.map_map] at h
  exact h
theorem Ev.atS {P : Par} {k : Nat} {sc : Scope} {n : Nm} {v i : Expr} {pos : Pos} {l : List Nat} {j : Int} {c : Nat} (hv : Ev P k sc n v (.str (tx l))) (hi : Ev P k sc n i (.int j)) (h0 : 0 ≤ j) (hs : j ≤ 4294967296) (hd : l[j.toNat]? = some c) : Ev P k sc n (.Subscript v i pos) (.str (tx [c])) := .item hv.w hi (by
  have hl : j.toNat < l.length := getElem_lt hd
  have e : seqIndex? j (tx l).length = some j.toNat := seqIndex_nat (by omega) (by rw [tx_len]; exact hl)
  simp only [itemPV]
  have e2 : (tx l).cps[j.toNat]? = some c := by rw [← Array.getElem?_toList, tx_list]; exact hd
  rw [if_pos (smallI_of (by omega)), e, Option.bind_some, e2]; rfl)
theorem nums0 (m : Nat) : Mine.numsOf 0 (m : Int) = (List.range m).map fun (j : Nat) => PV.int (j : Int) := by
  have := nums_eq 0 m
  simpa using this
theorem fmod_nat (a b : Nat) : Int.fmod (a : Int) (b : Int) = ((a % b : Nat) : Int) := by
  rw [Int.fmod_eq_emod_of_nonneg _ (by omega)]; rfl
/-! _law_spelled -/
def spL (lt : List Nat) (ns : List Int) : List Nat := (List.range lt.length).flatMap fun k => signL (lt.getD k 0) (ns.getD (k % ns.length) 0 + k)
def argOf (e : Expr) (i : Nat) : Expr := exAt (aCall1 e) i
theorem spelled_ok (w : World) (lt : List Nat) (ns : List Int) (hlt : ∀ c ∈ lt, 97 ≤ c ∧ c ≤ 122) (hl : lt.length ≤ 1000) (hn : 1 ≤ ns.length) (hn2 : ns.length ≤ 1000) : Cal (Gd w) 2 (.ref ad_spelled) [.str (tx lt), .list (ns.map PV.int), nothPV] (.str (tx (spL lt ns))) := by
  refine Cal.fn (k := 1) (fn_spelled w) rfl ?_
  have hc : argOf (aRet0 (stAt bd_spelled 0)) 0 = argOf (aRet0 (stAt bd_spelled 0)) 0 := rfl
  obtain ⟨n', hc⟩ := Cp1.mapT (P := Gd w) (k := 1) (sc := relab (aLC2 (argOf (aRet0 (stAt bd_spelled 0)) 0)) fd_spelled.scope) (n₀ := ⟨[("letters", .str (tx lt)), ("numbers", .list (ns.map PV.int)), ("nothing", nothPV)], none, none⟩)
    (elt := aLC0 (argOf (aRet0 (stAt bd_spelled 0)) 0)) (t := aC0 (cpAt (aLC1 (argOf (aRet0 (stAt bd_spelled 0)) 0)) 0))
    (fun (j : Nat) => PV.int (j : Int)) (fun j => ⟨[("letters", .str (tx lt)), ("numbers", .list (ns.map PV.int)), ("nothing", nothPV), ("k", .int (j : Nat))], none, none⟩) (fun j => PV.str (tx (signL (lt.getD j 0) (ns.getD (j % ns.length) 0 + j)))) (ds := List.range lt.length) (fun _ => rfl) (fun _ _ => rfl)
    (fun j hj => by
      have hj := List.mem_range.mp hj
      have hjn := Nat.mod_lt j (show 0 < ns.length by omega)
      have hmem : lt.getD j 0 ∈ lt := by rw [List.getD_eq_getElem?_getD, List.getElem?_eq_getElem hj]; exact List.getElem_mem hj
      have hab := hlt _ hmem
      refine Ev.callF rfl (glb_sign w) rfl (at_sign w.params) rfl (Evs.cons ?_ (Evs.cons ?_ (Evs.cons (Ev.name rfl rfl rfl rfl) Evs.nil (fun _ => rfl)) (fun _ => rfl)) (fun _ => rfl)) (sign_ok w (lt.getD j 0) _ hab.1 hab.2) (fun _ => rfl)
      · refine Ev.atS (Ev.name rfl rfl rfl rfl) (Ev.name rfl rfl rfl rfl) (by omega) (by omega) ?_
        rw [Int.toNat_natCast, List.getD_eq_getElem?_getD, List.getElem?_eq_getElem hj]; rfl
      · refine Ev.addI ?_ (Ev.name rfl rfl rfl rfl)
        refine Ev.at (j := ((j % ns.length : Nat) : Int)) (Ev.name rfl rfl rfl rfl).w ?_ (by omega) (by omega) ?_
        · rw [← fmod_nat]
          refine Ev.modI (Ev.name rfl rfl rfl rfl) ?_ (by omega)
          rw [show ((ns.length : Nat) : Int) = (((ns.map PV.int).length : Nat) : Int) by rw [List.length_map]]
          exact Ev.callB rfl (glb_len w) rfl (Evs.cons (Ev.name rfl rfl rfl rfl) Evs.nil (fun _ => rfl)) (Cal.lenL (small_of (by rw [List.length_map]; omega))) (fun _ => rfl) (fun _ _ => rfl)
        · rw [Int.toNat_natCast, List.getElem?_map, List.getD_eq_getElem?_getD, List.getElem?_eq_getElem hjn]; rfl)
  rw [← nums0] at hc
  have jn := join_ok (P := Gd w) (k := 1) (fun (j : Nat) => signL (lt.getD j 0) (ns.getD (j % ns.length) 0 + j)) (List.range lt.length) 2 (fun j _ => signL_len _ _) (by rw [List.length_range]; omega)
  have ln : ((lt.length : Nat) : Int) = (((tx lt).length : Nat) : Int) := by rw [tx_len]
  refine Ex.ret (Ex1.ret (Ev.bmeth (Ev.str _ _ _) (Evs.cons (Ev.comp (by decide +kernel) (Src.range1 rfl (glb_range w) rfl (Evs.cons ?_ Evs.nil (fun _ => rfl)) (smallI_of (by omega)) (fun _ => rfl)) (fun _ _ => rfl) (LoopOk.one rfl hc (small_of (by rw [List.length_map, List.length_range]; omega)))) Evs.nil (fun _ => rfl)) PySem.F.plainAttrs_str PySem.F.slot_str_join PySem.F.type_str_join (.inl ⟨_, rfl, rfl⟩) jn (fun _ => rfl) (fun _ _ => rfl) (fun _ => ⟨_, rfl⟩)))
  rw [ln]
  exact Ev.callB rfl (glb_len w) rfl (Evs.cons (Ev.name rfl rfl rfl rfl) Evs.nil (fun _ => rfl)) (Cal.lenS (small_of (by rw [tx_len]; omega))) (fun _ => rfl) (fun _ _ => rfl)
end
end L02

end
noncomputable section
open PySem PySem.W PyProof.Rows PySem.Calls Mine
set_option Elab.async false
set_option linter.unusedVariables false
set_option maxRecDepth 100000
namespace L02
noncomputable section
/-! _law_prepared -/
def foldL (c : Nat) : List Nat := (foldOf c).cps.toList
def keptL (l : List Nat) : List Nat := l.filter fun c => !inB1 c
def prepL (l : List Nat) : List Nat := (keptL l).flatMap foldL
def takenN (l : List Nat) : Nat := l.countP inB1
theorem taken_len (l : List Nat) : (l.length : Int) - ((keptL l).length : Int) = (takenN l : Nat) := by
  have : (keptL l).length + takenN l = l.length := by
    induction l with
    | nil => rfl
    | cons c l ih =>
      unfold keptL takenN at ih ⊢
      cases q : inB1 c
      · rw [List.filter_cons_of_pos (by simp [q]), List.countP_cons_of_neg (by simp [q]), List.length_cons, List.length_cons]; omega
      · rw [List.filter_cons_of_neg (by simp [q]), List.countP_cons_of_pos q, List.length_cons]; omega
  omega
theorem filterMap_if {α β : Type} (p : α → Bool) (f : α → β) : ∀ l : List α, l.filterMap (fun a => if p a = true then some (f a) else none) = (l.filter p).map f
  | [] => rfl
  | a :: l => by
    by_cases q : p a = true
    · rw [List.filterMap_cons_some (by rw [if_pos q]), List.filter_cons_of_pos q, List.map_cons, filterMap_if p f l]
    · rw [List.filterMap_cons_none (by rw [if_neg q]), List.filter_cons_of_neg q, filterMap_if p f l]
/-- a comprehension with a test over known items -/
theorem Cp1.filterT {P : Par} {k : Nat} {sc : Scope} {t elt : Expr} {ifs : List Expr} {α : Type} {n₀ : Nm} (g : α → PV) (N : α → Nm) (p : α → Bool) (f : α → PV) {ds : List α} (h0 : ∀ d, asg sc t (g d) n₀ = some (N d)) (hasg : ∀ e d, asg sc t (g d) (N e) = some (N d))
    (h : ∀ d ∈ ds, Tvs P k sc (N d) ifs (p d)) (h' : ∀ d ∈ ds, p d = true → Ev P k sc (N d) elt (f d)) : ∃ n', Cp1 P k sc elt t ifs n₀ (ds.map g) ((ds.filter p).map f) n' := by
  have := Cp1.filterMapT (P := P) (k := k) (elt := elt) (ifs := ifs) g N (fun d => if p d = true then some (f d) else none) h0 hasg fun d hd => ⟨fun q => by
    by_cases z : p d = true
    · rw [if_pos z] at q; cases q
    · have e : p d = false := by simpa using z
      rw [← e]; exact h d hd, fun y q => by
    by_cases z : p d = true
    · rw [if_pos z] at q; cases q
      refine ⟨?_, h' d hd z⟩
      rw [← z]; exact h d hd
    · rw [if_neg z] at q; cases q⟩
  rw [filterMap_if] at this
  exact this
def ltE : Expr → List Expr | .Tuple l _ _ => l | _ => []
theorem fit_ok (c : Nat) (hc : c < 0x110000) : Builtin.Str.tooLong (Txt.lower ⟨#[c]⟩).length = false := by
  have : (Txt.lower ⟨#[c]⟩).length ≤ 2 := by
    by_cases q : c = 304
    · subst q; decide +kernel
    · rw [lower_one, lowerOf_one q]; show (1 : Nat) ≤ 2; omega
  unfold Builtin.Str.tooLong
  rw [decide_eq_false_iff_not, sizeLine_eq]; omega
theorem prepared_ok (w : World) (l : List Nat) (hl : l.length ≤ 1000) (hv : ∀ c ∈ l, c < 0x110000) (hf : ∀ c ∈ keptL l, (foldL c).length ≤ 4) : Cal (Gd w) 2 (.ref ad_prepared) [.str (tx l)] (.tup [.str (tx (prepL l)), .int (takenN l : Nat)]) := by
  refine Cal.fn (k := 1) (fn_prepared w) rfl ?_
  have hk : (keptL l).length ≤ 1000 := by unfold keptL; exact Nat.le_trans (List.length_filter_le _ _) hl
  obtain ⟨na, ha⟩ := Cp1.filterT (P := Gd w) (k := 1) (sc := relab (aLC2 (aAsg1 (stAt bd_prepared 0))) fd_prepared.scope) (n₀ := ⟨[], none, none⟩) (elt := aLC0 (aAsg1 (stAt bd_prepared 0))) (t := aC0 (cpAt (aLC1 (aAsg1 (stAt bd_prepared 0))) 0)) (ifs := aC2 (cpAt (aLC1 (aAsg1 (stAt bd_prepared 0))) 0))
    signPV (fun c => ⟨[("sign", signPV c)], none, none⟩) (fun c => !inB1 c) signPV (ds := l) (fun _ => rfl) (fun _ _ => rfl)
    (fun c _ => Tvs.one (Tv.not (Tv.val (Ev.callF rfl (glb_inb1 w) rfl (at_in_table_b1 w.params) rfl (Evs.cons (Ev.name rfl rfl rfl rfl) Evs.nil (fun _ => rfl)) (inb1_ok w c) (fun _ => rfl)) (fun _ _ => rfl))))
    (fun c _ _ => Ev.name rfl rfl rfl rfl)
  rw [← tx_signs] at ha
  obtain ⟨nb, hb⟩ := Cp1.mapT (P := Gd w) (k := 1) (sc := relab (aLC2 (argOf (exAt (ltE (aRet0 (stAt bd_prepared 1))) 0) 0)) fd_prepared.scope) (n₀ := ⟨[], none, none⟩) (elt := aLC0 (argOf (exAt (ltE (aRet0 (stAt bd_prepared 1))) 0) 0)) (t := aC0 (cpAt (aLC1 (argOf (exAt (ltE (aRet0 (stAt bd_prepared 1))) 0) 0)) 0))
    signPV (fun c => ⟨[("sign", signPV c)], none, none⟩) (fun c => PV.str (tx (foldL c))) (ds := keptL l) (fun _ => rfl) (fun _ _ => rfl)
    (fun c hc => by
      have e : tx (foldL c) = foldOf c := by unfold foldL; rw [← tx_of]
      rw [e]
      exact Ev.callF rfl (glb_mapb3 w) rfl (at_map_table_b3 w.params) rfl (Evs.cons (Ev.name rfl rfl rfl rfl) Evs.nil (fun _ => rfl)) (mapb3_ok w c (fit_ok c (hv c (List.mem_filter.mp hc).1))) (fun _ => rfl))
  refine Ex.cons (n₁ := ⟨[("spelling", .str (tx l)), ("kept", .list ((keptL l).map signPV))], none, none⟩) (Ex1.assignComp (by decide +kernel) (Src.str (Ev.name rfl rfl rfl rfl)) (fun _ _ => rfl) (LoopOk.one rfl ha (small_of (by rw [List.length_map]; exact Nat.le_trans hk (by decide)))) rfl (fun env he => by
      obtain ⟨scope, l, g, cells, q, f, c, fr, bn⟩ := env
      subst he
      rfl)) ?_
  have jn := join_ok (P := Gd w) (k := 1) foldL (keptL l) 4 hf (by omega)
  refine Ex.ret (Ex1.ret (Ev.tup (Evs.cons ?_ (Evs.cons ?_ Evs.nil (fun _ => rfl)) (fun _ => rfl)) rfl))
  · exact Ev.bmeth (Ev.str _ _ _) (Evs.cons (Ev.comp (by decide +kernel) (Src.list (Ev.name rfl rfl rfl rfl)) (fun _ _ => rfl) (LoopOk.one rfl hb (small_of (by rw [List.length_map]; omega)))) Evs.nil (fun _ => rfl)) PySem.F.plainAttrs_str PySem.F.slot_str_join PySem.F.type_str_join (.inl ⟨_, rfl, rfl⟩) jn (fun _ => rfl) (fun _ _ => rfl) (fun _ => ⟨_, rfl⟩)
  · rw [← taken_len]
    have ln : ((l.length : Nat) : Int) = (((tx l).length : Nat) : Int) := by rw [tx_len]
    have lk : (((keptL l).length : Nat) : Int) = ((((keptL l).map signPV).length : Nat) : Int) := by rw [List.length_map]
    rw [ln, lk]
    exact Ev.subI (Ev.callB rfl (glb_len w) rfl (Evs.cons (Ev.name rfl rfl rfl rfl) Evs.nil (fun _ => rfl)) (Cal.lenS (small_of (by rw [tx_len]; omega))) (fun _ => rfl) (fun _ _ => rfl)) (Ev.callB rfl (glb_len w) rfl (Evs.cons (Ev.name rfl rfl rfl rfl) Evs.nil (fun _ => rfl)) (Cal.lenL (small_of (by rw [List.length_map]; omega))) (fun _ => rfl) (fun _ _ => rfl))
/-! _law_column -/
theorem level_col (cs : List Nat) (b s : Nat) (hs : 1 ≤ s) : Ws.level s cs b = (cs.map fun p => p + s - p % s).sum + b := by
  unfold Ws.level Ws.stops
  have : (cs.map fun p => p + s - p % s).sum = s * ((cs.map (· / s)).sum + cs.length) := by
    induction cs with
    | nil => simp
    | cons p cs ih =>
      have h1 := Nat.div_add_mod p s
      have h2 := Nat.mod_lt p (show 0 < s by omega)
      simp only [List.map_cons, List.sum_cons, List.length_cons]
      rw [ih]
      have e : s * (p / s + (cs.map (· / s)).sum + (cs.length + 1)) = s * (p / s) + s + s * ((cs.map (· / s)).sum + cs.length) := by
        simp only [Nat.mul_add, Nat.mul_one]; omega
      rw [e]; omega
  rw [this]; omega
theorem sum_cast (f : Nat → Nat) : ∀ cs : List Nat, (cs.map fun p => ((f p : Nat) : Int)).sum = (((cs.map f).sum : Nat) : Int)
  | [] => rfl
  | p :: cs => by simp [sum_cast f cs]
theorem column_ok (w : World) (cs : List Nat) (b s : Nat) (hs : 1 ≤ s) (hz : cs.length ≤ 1000) : Cal (Gd w) 1 (.ref ad_column) [.list (nats cs), .int (b : Nat), .int (s : Nat)] (.int (Ws.level s cs b : Nat)) := by
  refine Cal.fn (k := 0) (fn_column w) rfl ?_
  obtain ⟨na, ha⟩ := Cp1.mapT (P := Gd w) (k := 0) (sc := relab (aLC2 (argOf (aBin0 (aRet0 (stAt bd_column 0))) 0)) fd_column.scope) (n₀ := ⟨[("size", .int (s : Nat))], none, none⟩) (elt := aLC0 (argOf (aBin0 (aRet0 (stAt bd_column 0))) 0)) (t := aC0 (cpAt (aLC1 (argOf (aBin0 (aRet0 (stAt bd_column 0))) 0)) 0))
    (fun (p : Nat) => PV.int (p : Int)) (fun p => ⟨[("size", .int (s : Nat)), ("place", .int (p : Nat))], none, none⟩) (fun p => PV.int ((p + s - p % s : Nat) : Int)) (ds := cs) (fun _ => rfl) (fun _ _ => rfl)
    (fun p _ => by
      have h2 := Nat.mod_lt p (show 0 < s by omega)
      have e : ((p + s - p % s : Nat) : Int) = (p : Int) + (s : Int) - Int.fmod (p : Int) (s : Int) := by rw [fmod_nat]; omega
      rw [e]
      exact Ev.subI (Ev.addI (Ev.name rfl rfl rfl rfl) (Ev.name rfl rfl rfl rfl)) (Ev.modI (Ev.name rfl rfl rfl rfl) (Ev.name rfl rfl rfl rfl) (by omega)))
  have e : cs.map (fun p => PV.int ((p + s - p % s : Nat) : Int)) = (cs.map fun p => ((p + s - p % s : Nat) : Int)).map PV.int := by rw [List.map_map]; rfl
  rw [e] at ha
  have e2 : ((Ws.level s cs b : Nat) : Int) = (cs.map fun p => ((p + s - p % s : Nat) : Int)).sum + (b : Int) := by rw [level_col cs b s hs, sum_cast]; omega
  rw [e2]
  exact Ex.ret (Ex1.ret (Ev.addI (Ev.callB rfl (glb_sum w) rfl (Evs.cons (Ev.comp (by decide +kernel) (Src.list (Ev.name rfl rfl rfl rfl)) (fun _ _ => rfl) (LoopOk.one rfl ha (small_of (by rw [List.length_map, List.length_map]; omega)))) Evs.nil (fun _ => rfl)) Cal.sum (fun _ => rfl) (fun _ _ => rfl)) (Ev.name rfl rfl rfl rfl)))
end
end L02

end
noncomputable section
open PySem PySem.W PyProof.Rows PySem.Calls Mine
set_option Elab.async false
set_option linter.unusedVariables false
set_option maxRecDepth 100000
namespace L02
noncomputable section
/-! the signs that fold to nothing -/
theorem b1_nothing : (b1.all fun i => decide (0 ≤ i) && nothing.contains i.toNat) = true := by decide +kernel
theorem nothing_b1 : (nothing.all fun c => inB1 c && Nat.blt c 1114112) = true := by decide +kernel
theorem inB1_iff (c : Nat) : inB1 c = true ↔ c ∈ nothing := by
  constructor
  · intro h
    have hm : (c : Int) ∈ b1 := by simpa [inB1] using h
    have := List.all_eq_true.mp b1_nothing _ hm
    simp only [Bool.and_eq_true, Int.toNat_natCast] at this
    simpa using this.2
  · intro h
    have := List.all_eq_true.mp nothing_b1 _ h
    simp only [Bool.and_eq_true] at this
    exact this.1
theorem nothing_valid {c : Nat} (h : c ∈ nothing) : c < 0x110000 := by
  have := List.all_eq_true.mp nothing_b1 _ h
  simp only [Bool.and_eq_true, Nat.blt_eq] at this
  exact this.2
theorem in_nothing (c : Nat) : cmpPV .In (signPV c) nothPV = some (inB1 c) := by
  have e : nothing.map signPV = (nothing.map fun c => tx [c]).map PV.str := by rw [List.map_map]; rfl
  show (match strs? (nothing.map signPV) with | some zs => some (zs.any fun y => y == (⟨#[c]⟩ : Str)) | none => none) = _
  rw [e, strs_of_map]
  show some _ = some _
  congr 1
  rw [Bool.eq_iff_iff, List.any_eq_true, inB1_iff]
  constructor
  · rintro ⟨y, hy, q⟩
    obtain ⟨d, hd, rfl⟩ := List.mem_map.mp hy
    have := congrArg (fun x : Str => x.cps.toList) (eq_of_beq q)
    simp only [tx_list] at this
    have e2 : d = c := by simpa using this
    rw [← e2]; exact hd
  · intro h
    exact ⟨tx [c], List.mem_map.mpr ⟨c, h, rfl⟩, by simp [tx]⟩
/-! what is prepared -/
theorem prep_append (a b : List Nat) : prepL (a ++ b) = prepL a ++ prepL b := by unfold prepL keptL; rw [List.filter_append, List.flatMap_append]
theorem prep_flatMap {α : Type} (f g : α → List Nat) : ∀ l : List α, (∀ a ∈ l, prepL (f a) = g a) → prepL (l.flatMap f) = l.flatMap g
  | [], _ => rfl
  | a :: l, h => by rw [List.flatMap_cons, List.flatMap_cons, prep_append, h a (.head _), prep_flatMap f g l fun b hb => h b (.tail _ hb)]
/-- signs that are known, and fold to a few -/
def FineL (l : List Nat) : Prop := ∀ c ∈ l, c < 0x110000 ∧ (inB1 c = false → (foldL c).length ≤ 4)
theorem FineL.append {a b : List Nat} (x : FineL a) (y : FineL b) : FineL (a ++ b) := fun c hc => (List.mem_append.mp hc).elim (x c) (y c)
theorem FineL.flatMap {α : Type} {f : α → List Nat} {l : List α} (h : ∀ a ∈ l, FineL (f a)) : FineL (l.flatMap f) := fun c hc => by
  obtain ⟨a, ha, hc⟩ := List.mem_flatMap.mp hc
  exact h a ha c hc
theorem nothing_mem (x : Int) : nothing.getD (x.fmod 27).toNat 0 ∈ nothing := by
  have h := fmod_range x (k := 27) (by decide)
  have hl : (x.fmod 27).toNat < nothing.length := by rw [nothing_len]; omega
  rw [List.getD_eq_getElem?_getD, List.getElem?_eq_getElem hl]
  exact List.getElem_mem hl
theorem code_spec (c : Nat) (x : Int) (h1 : 97 ≤ c) (h2 : c ≤ 122) : inB1 (codeOf c x) = false ∧ foldL (codeOf c x) = [c] ∧ codeOf c x < 0x110000 := by
  have h17 := fmod_range x (k := 17) (by decide)
  have ok := code_ok (p := c - 97) (w := (x.fmod 17).toNat) (by omega) (by omega)
  refine ⟨ok.out, ?_, ?_⟩
  · unfold foldL codeOf
    rw [ok.fold]
    unfold letterS
    rw [show 97 + (c - 97) = c by omega]
  · have := ok.le; have := ok.nn; unfold codeOf; omega
theorem prep_sign (c : Nat) (x : Int) (h1 : 97 ≤ c) (h2 : c ≤ 122) : prepL (signL c x) = [c] := by
  obtain ⟨a1, a2, _⟩ := code_spec c x h1 h2
  have e : prepL [codeOf c x] = [c] := by
    unfold prepL keptL
    rw [List.filter_cons_of_pos (by simp [a1]), List.filter_nil, List.flatMap_cons, List.flatMap_nil, a2]; rfl
  unfold signL
  split
  · have h := (inB1_iff _).mpr (nothing_mem x)
    rw [prep_append, e]
    unfold prepL keptL
    rw [List.filter_cons_of_neg (by rw [h]; decide)]; rfl
  · rw [List.nil_append, e]
theorem fine_sign (c : Nat) (x : Int) (h1 : 97 ≤ c) (h2 : c ≤ 122) : FineL (signL c x) := by
  obtain ⟨a1, a2, a3⟩ := code_spec c x h1 h2
  have e : FineL [codeOf c x] := fun d hd => by simp at hd; subst hd; exact ⟨a3, fun _ => by rw [a2, List.length_singleton]; decide⟩
  unfold signL
  split
  · refine FineL.append (fun d hd => ?_) e
    simp only [List.mem_singleton] at hd
    subst hd
    have hm := nothing_mem x
    exact ⟨nothing_valid hm, fun q => by rw [(inB1_iff _).mpr hm] at q; cases q⟩
  · exact e
theorem many_valid : (many.all fun a => Nat.blt a.1 1114112) = true := by decide +kernel
theorem prep_spOne (x : Int) : prepL (spOne x) = ltOne x := by
  have ha := abc_range x
  have m := many_at x
  unfold spOne ltOne
  split
  · unfold prepL keptL
    rw [List.filter_cons_of_pos (by simp [m.out]), List.filter_nil, List.flatMap_cons, List.flatMap_nil, List.append_nil]
    unfold foldL
    rw [m.fold]
  · exact prep_sign _ x ha.1 ha.2
theorem fine_spOne (x : Int) : FineL (spOne x) := by
  have ha := abc_range x
  have m := many_at x
  unfold spOne
  split
  · intro d hd
    simp only [List.mem_singleton] at hd
    subst hd
    have := List.all_eq_true.mp many_valid _ (List.mem_of_getElem? (many_get x))
    refine ⟨by simpa using this, fun _ => ?_⟩
    unfold foldL
    rw [m.fold]
    have := m.le; omega
  · exact fine_sign _ x ha.1 ha.2
theorem prep_wordSp (xs : List Int) : prepL (wordSp xs) = wordLt xs := prep_flatMap _ _ xs fun x _ => prep_spOne x
theorem fine_wordSp (xs : List Int) : FineL (wordSp xs) := FineL.flatMap fun x _ => fine_spOne x
theorem range_flat (lt : List Nat) : (List.range lt.length).flatMap (fun k => [lt.getD k 0]) = lt := by
  have : ∀ l : List Nat, l.flatMap (fun k => [lt.getD k 0]) = l.map fun k => lt.getD k 0 := fun l => by
    induction l with
    | nil => rfl
    | cons a l ih => rw [List.flatMap_cons, List.map_cons, ih]; rfl
  rw [this]
  refine List.ext_getElem (by simp) fun i h1 h2 => ?_
  simp [List.getD_eq_getElem?_getD, List.getElem?_eq_getElem h2]
theorem getD_abc {lt : List Nat} (h : ∀ c ∈ lt, 97 ≤ c ∧ c ≤ 122) {k : Nat} (hk : k < lt.length) : 97 ≤ lt.getD k 0 ∧ lt.getD k 0 ≤ 122 := by
  rw [List.getD_eq_getElem?_getD, List.getElem?_eq_getElem hk]
  exact h _ (List.getElem_mem hk)
theorem prep_spL (lt : List Nat) (ns : List Int) (h : ∀ c ∈ lt, 97 ≤ c ∧ c ≤ 122) : prepL (spL lt ns) = lt := by
  conv => rhs; rw [← range_flat lt]
  refine prep_flatMap _ _ _ fun k hk => ?_
  have := getD_abc h (List.mem_range.mp hk)
  exact prep_sign _ _ this.1 this.2
theorem fine_spL (lt : List Nat) (ns : List Int) (h : ∀ c ∈ lt, 97 ≤ c ∧ c ≤ 122) : FineL (spL lt ns) := FineL.flatMap fun k hk => by
  have := getD_abc h (List.mem_range.mp hk)
  exact fine_sign _ _ this.1 this.2
theorem spL_len (lt : List Nat) (ns : List Int) : (spL lt ns).length ≤ 2 * lt.length := by
  have := flat_len (fun k : Nat => signL (lt.getD k 0) (ns.getD (k % ns.length) 0 + k)) 2 (fun k => signL_len _ _) (List.range lt.length)
  rw [List.length_range] at this
  exact this
theorem taken_le (l : List Nat) : takenN l ≤ l.length := List.countP_le_length
/-! the indents -/
def placesOf (wd : List Nat) : List Nat := wd.map (· - 96)
def indOne (c : Nat) : List Nat := List.replicate (c - 96) 32 ++ [9]
def indL (wd : List Nat) (b : Nat) : List Nat := wd.flatMap indOne ++ List.replicate b 32
theorem cell_blanks (k : Nat) : ∀ s : List Nat × Nat, (List.replicate k 32).foldl Ws.cellStep s = (s.1, s.2 + k) := by
  induction k with
  | zero => intro s; rfl
  | succ k ih =>
    intro s
    rw [List.replicate_succ, List.foldl_cons, ih]
    simp [Ws.cellStep, Nat.add_assoc, Nat.add_comm 1]
theorem cell_word : ∀ (wd : List Nat) (cs : List Nat), (wd.flatMap indOne).foldl Ws.cellStep (cs, 0) = (cs ++ placesOf wd, 0)
  | [], cs => by simp [placesOf]
  | c :: wd, cs => by
    rw [List.flatMap_cons, List.foldl_append]
    have : (indOne c).foldl Ws.cellStep (cs, 0) = (cs ++ [c - 96], 0) := by
      unfold indOne
      rw [List.foldl_append, cell_blanks]
      simp [Ws.cellStep]
    rw [this, cell_word wd]
    simp [placesOf]
theorem cells_ind (wd : List Nat) (b : Nat) : Ws.cellsOf (indL wd b) = (placesOf wd, b) := by
  unfold Ws.cellsOf indL
  rw [List.foldl_append, cell_word, cell_blanks]
  simp
theorem ind_signs (wd : List Nat) (b : Nat) : ∀ c ∈ indL wd b, c = 32 ∨ c = 9 := fun c hc => by
  rcases List.mem_append.mp hc with h | h
  · obtain ⟨a, _, h⟩ := List.mem_flatMap.mp h
    rcases List.mem_append.mp h with h | h
    · exact .inl (List.eq_of_mem_replicate h)
    · simp at h; exact .inr h
  · exact .inl (List.eq_of_mem_replicate h)
theorem ind_len (wd : List Nat) (b : Nat) (h : ∀ c ∈ wd, c ≤ 122) : (indL wd b).length ≤ 27 * wd.length + b := by
  have : (wd.flatMap indOne).length ≤ 27 * wd.length := by
    induction wd with
    | nil => exact Nat.zero_le _
    | cons c wd ih =>
      have h1 := h c (.head _)
      have h2 := ih fun d hd => h d (.tail _ hd)
      rw [List.flatMap_cons, List.length_append, List.length_cons, Nat.mul_add]
      have : (indOne c).length = c - 96 + 1 := by simp [indOne]
      omega
  unfold indL
  rw [List.length_append, List.length_replicate]; omega
theorem places_le {wd : List Nat} (h : ∀ c ∈ wd, c ≤ 122) : ∀ p ∈ placesOf wd, p ≤ 26 := fun p hp => by
  obtain ⟨c, hc, rfl⟩ := List.mem_map.mp hp
  have := h c hc; omega
/-! sorted words -/
theorem sorted_of (l : List Nat) : ∃ M : List Nat, M.Perm l ∧ M.Pairwise (· ≤ ·) := by
  induction l with
  | nil => exact ⟨[], .nil, .nil⟩
  | cons a l ih =>
    obtain ⟨M, h1, h2⟩ := ih
    have ins : ∀ M : List Nat, M.Pairwise (· ≤ ·) → ∃ N : List Nat, N.Perm (a :: M) ∧ N.Pairwise (· ≤ ·) := by
      intro M
      induction M with
      | nil => intro _; exact ⟨[a], .refl _, List.pairwise_singleton _ _⟩
      | cons b M ih =>
        intro h
        rw [List.pairwise_cons] at h
        by_cases q : a ≤ b
        · exact ⟨a :: b :: M, .refl _, List.pairwise_cons.mpr ⟨fun c hc => by
            rcases List.mem_cons.mp hc with rfl | hc
            · exact q
            · exact Nat.le_trans q (h.1 c hc), List.pairwise_cons.mpr h⟩⟩
        · obtain ⟨N, n1, n2⟩ := ih h.2
          refine ⟨b :: N, (n1.cons b).trans (List.Perm.swap a b M), List.pairwise_cons.mpr ⟨fun c hc => ?_, n2⟩⟩
          rcases List.mem_cons.mp (n1.mem_iff.mp hc) with rfl | hc
          · omega
          · exact h.1 c hc
    obtain ⟨N, n1, n2⟩ := ins M h2
    exact ⟨N, n1.trans (h1.cons a), n2⟩
/-- the sorted word: its first letter, its last letter -/
structure EndsOk (M : List Nat) (a : Nat) (mid : List Nat) (z : Nat) : Prop where
  eq : M = a :: (mid ++ [z])
  a1 : 97 ≤ a
  a2 : a ≤ 98
  z1 : 101 ≤ z
  z2 : z ≤ 122
theorem ends_of {M : List Nat} (hp : M.Pairwise (· ≤ ·)) (h98 : 98 ∈ M) (h101 : 101 ∈ M) (hab : ∀ c ∈ M, 97 ≤ c ∧ c ≤ 122) : ∃ a mid z, EndsOk M a mid z := by
  cases M with
  | nil => cases h98
  | cons a M =>
    have hM : M ≠ [] := fun e => by
      subst e
      simp at h98 h101
      omega
    obtain ⟨mid, z, e⟩ : ∃ mid z, M = mid ++ [z] := ⟨M.dropLast, M.getLast hM, (List.dropLast_concat_getLast hM).symm⟩
    subst e
    rw [List.pairwise_cons] at hp
    refine ⟨a, mid, z, rfl, (hab a (.head _)).1, ?_, ?_, (hab z (by simp)).2⟩
    · rcases List.mem_cons.mp h98 with e | h
      · omega
      · exact hp.1 _ h
    · have hz : ∀ c ∈ mid, c ≤ z := fun c hc => (List.pairwise_append.mp hp.2).2.2 c hc z (by simp)
      have haz := hp.1 z (by simp)
      rcases List.mem_cons.mp h101 with e | h
      · omega
      · rcases List.mem_append.mp h with h | h
        · exact hz _ h
        · simp at h; omega
def nearOf (a : Nat) (mid : List Nat) (z : Nat) : List Nat := (a + 1) :: (mid ++ [z - 1])
theorem near_abc {M : List Nat} {a : Nat} {mid : List Nat} {z : Nat} (h : EndsOk M a mid z) (hab : ∀ c ∈ M, 97 ≤ c ∧ c ≤ 122) : ∀ c ∈ nearOf a mid z, 97 ≤ c ∧ c ≤ 122 := fun c hc => by
  obtain ⟨e, h1, h2, h3, h4⟩ := h
  subst e
  unfold nearOf at hc
  rcases List.mem_cons.mp hc with rfl | hc
  · omega
  · rcases List.mem_append.mp hc with hc | hc
    · exact hab c (by simp [hc])
    · simp at hc; omega
/-! equal words -/
theorem counts_perm (cs ds : List Nat) : Ws.counts cs = Ws.counts ds ↔ cs.Perm ds := by rw [Ws.counts_eq_iff, List.perm_iff_count]
theorem most_comm (cs ds : List Nat) (b e : Nat) : most ds cs e b = most cs ds b e := by unfold most; omega
end
end L02

end
noncomputable section
open PySem PySem.W PyProof.Rows PySem.Calls Mine
set_option Elab.async false
set_option linter.unusedVariables false
set_option maxRecDepth 100000
namespace L02
noncomputable section
def st (i : Nat) : Stmt := stAt bd_law i
def LE (e : Expr) : Expr := aLC0 e
def LT (e : Expr) : Expr := aC0 (cpAt (aLC1 e) 0)
def LI (e : Expr) : List Expr := aC2 (cpAt (aLC1 e) 0)
def LS (e : Expr) : Scope := aLC2 e
theorem blank_eq : (" " : Str) = ⟨#[32]⟩ := by decide +kernel
theorem tab_eq : ("\t" : Str) = tx [9] := by decide +kernel
theorem blanks (n : Int) : Txt.mul (" " : Str) n = tx (List.replicate n.toNat 32) := by rw [blank_eq, tx_of (Txt.mul _ _), mul_one_list]
/-! numbers that are moved -/
theorem moved_ok (w : World) (e : Expr) (s : Scope) (m : Int) (elt t : Expr) (pos : Pos) (xs : List Int) (h1 : ∀ x y : Int, asg (relab s fd_law.scope) t (.int y) ⟨[("x", .int x)], none, none⟩ = some ⟨[("x", .int y)], none, none⟩) (h0 : ∀ y : Int, asg (relab s fd_law.scope) t (.int y) ⟨[], none, none⟩ = some ⟨[("x", .int y)], none, none⟩)
    (h2 : ∀ x : Int, Ev (Gd w) 4 (relab s fd_law.scope) ⟨[("x", .int x)], none, none⟩ elt (.int (x + m))) : ∃ n', Cp1 (Gd w) 4 (relab s fd_law.scope) elt t [] ⟨[], none, none⟩ (xs.map PV.int) ((xs.map (· + m)).map PV.int) n' := by
  have := Cp1.mapT (P := Gd w) (k := 4) (sc := relab s fd_law.scope) (n₀ := ⟨[], none, none⟩) (elt := elt) (t := t) PV.int (fun x => ⟨[("x", .int x)], none, none⟩) (fun x => PV.int (x + m)) (ds := xs) h0 h1 fun x _ => h2 x
  rw [List.map_map]
  exact this
/-! an indent -/
def inPV (wd : List Nat) (b : Nat) : PV := wsPV (tx (indL wd b)) (placesOf wd) b
theorem new_ind (w : World) (wd : List Nat) (b : Nat) (hab : ∀ c ∈ wd, 97 ≤ c ∧ c ≤ 122) (hl : wd.length ≤ 20) (hb : b ≤ 100) : Cal (Gd w) 4 (.ref ad_cls) [.str (tx (indL wd b))] (inPV wd b) := by
  have := new_ok w (tx (indL wd b)) (by rw [tx_list]; exact ind_signs wd b) (by rw [tx_len]; have := ind_len wd b fun c hc => (hab c hc).2; omega)
  rw [tx_list, cells_ind] at this
  exact this.le (by decide)
def eInd : Expr := aAsg1 (st 8)
def scInd : Scope := relab (LS eInd) fd_law.scope
def eJoin : Expr := argOf (aBin0 (argOf (LE eInd) 0)) 0
theorem ind_ev (w : World) (wd : List Nat) (b : Nat) (hab : ∀ c ∈ wd, 97 ≤ c ∧ c ≤ 122) (hl : wd.length ≤ 20) (hb : b ≤ 100) : Ev (Gd w) 4 scInd ⟨[("word", .str (tx wd)), ("taken", .int (b : Nat))], none, none⟩ (LE eInd) (inPV wd b) := by
  obtain ⟨na, ha⟩ := Cp1.mapT (P := Gd w) (k := 4) (sc := relab (LS eJoin) scInd) (n₀ := ⟨[], none, none⟩) (elt := LE eJoin) (t := LT eJoin) signPV (fun c => ⟨[("letter", signPV c)], none, none⟩) (fun c => PV.str (tx (indOne c))) (ds := wd) (fun _ => rfl) (fun _ _ => rfl)
    (fun c hc => by
      have hc := hab c hc
      have e : ((c : Int) - 96).toNat = c - 96 := by omega
      have e2 : tx (indOne c) = Txt.mul (" " : Str) ((c : Int) - 96) ++ ("\t" : Str) := by rw [blanks, e, tab_eq, tx_app]; rfl
      rw [e2]
      refine Ev.addS (Ev.mulS (Ev.str _ _ _) (Ev.subI (Ev.callB rfl (glb_ord w) rfl (Evs.cons (Ev.name rfl rfl rfl rfl) Evs.nil (fun _ => rfl)) Cal.ord (fun _ => rfl) (fun _ _ => rfl)) (Ev.int _ _ _)) (by rw [one_len]; decide) (by omega) (by rw [one_len]; omega)) (Ev.str _ _ _) ?_
      rw [blanks, tab_eq, tx_len, tx_len, List.length_replicate, List.length_singleton]; omega)
  rw [← tx_signs] at ha
  have jn := join_ok (P := Gd w) (k := 4) indOne wd 27 (fun c hc => by have := hab c hc; simp [indOne]; omega) (by omega)
  have hlen := ind_len wd b fun c hc => (hab c hc).2
  refine Ev.callC (kls w) rfl (glb_W w) rfl (Evs.cons (d := .str (tx (indL wd b))) ?_ Evs.nil (fun _ => rfl)) (new_ind w wd b hab hl hb) (fun _ => rfl) (fun _ _ => rfl)
  have e3 : tx (indL wd b) = tx (wd.flatMap indOne) ++ Txt.mul (" " : Str) ((b : Nat) : Int) := by rw [blanks, Int.toNat_natCast, tx_app]; rfl
  rw [e3]
  refine Ev.addS (Ev.bmeth (Ev.str _ _ _) (Evs.cons (Ev.comp (by decide +kernel) (Src.str (Ev.name rfl rfl rfl rfl)) (fun _ _ => rfl) (LoopOk.one rfl ha (small_of (by rw [List.length_map]; omega)))) Evs.nil (fun _ => rfl)) PySem.F.plainAttrs_str PySem.F.slot_str_join PySem.F.type_str_join (.inl ⟨_, rfl, rfl⟩) jn (fun _ => rfl) (fun _ _ => rfl) (fun _ => ⟨_, rfl⟩))
    (Ev.mulS (Ev.str _ _ _) (Ev.name rfl rfl rfl rfl) (by rw [one_len]; decide) (by omega) (by rw [one_len]; omega)) ?_
  rw [blanks, tx_len, tx_len, List.length_replicate]
  unfold indL at hlen
  rw [List.length_append, List.length_replicate] at hlen
  omega
/-! the places of a word -/
def ePlc : Expr := aAsg1 (st 9)
def scPlc : Scope := relab (LS ePlc) fd_law.scope
theorem plc_ev (w : World) (wd : List Nat) (hab : ∀ c ∈ wd, 97 ≤ c ∧ c ≤ 122) (hl : wd.length ≤ 20) : Ev (Gd w) 4 scPlc ⟨[("word", .str (tx wd))], none, none⟩ (LE ePlc) (.list (nats (placesOf wd))) := by
  obtain ⟨na, ha⟩ := Cp1.mapT (P := Gd w) (k := 4) (sc := relab (LS (LE ePlc)) scPlc) (n₀ := ⟨[], none, none⟩) (elt := LE (LE ePlc)) (t := LT (LE ePlc)) signPV (fun c => ⟨[("letter", signPV c)], none, none⟩) (fun c => PV.int ((c - 96 : Nat) : Int)) (ds := wd) (fun _ => rfl) (fun _ _ => rfl)
    (fun c hc => by
      have hc := hab c hc
      have e : ((c - 96 : Nat) : Int) = (c : Int) - 96 := by omega
      rw [e]
      exact Ev.subI (Ev.callB rfl (glb_ord w) rfl (Evs.cons (Ev.name rfl rfl rfl rfl) Evs.nil (fun _ => rfl)) Cal.ord (fun _ => rfl) (fun _ _ => rfl)) (Ev.int _ _ _))
  rw [← tx_signs] at ha
  have e : wd.map (fun c => PV.int ((c - 96 : Nat) : Int)) = nats (placesOf wd) := by unfold nats placesOf; rw [List.map_map]; rfl
  rw [e] at ha
  exact Ev.comp (by decide +kernel) (Src.str (Ev.name rfl rfl rfl rfl)) (fun _ _ => rfl) (LoopOk.one rfl ha (small_of (by rw [nats_len]; unfold placesOf; rw [List.length_map]; omega)))
/-! how many signs were taken out -/
def eBeh : Expr := aAsg1 (st 10)
def scBeh : Scope := relab (LS eBeh) fd_law.scope
theorem beh_ev (w : World) (l : List Nat) (hl : l.length ≤ 100) : Ev (Gd w) 4 scBeh ⟨[("nothing", nothPV), ("one", .str (tx l))], none, none⟩ (LE eBeh) (.int (takenN l : Nat)) := by
  obtain ⟨na, ha⟩ := Cp1.filterT (P := Gd w) (k := 4) (sc := relab (LS (argOf (LE eBeh) 0)) scBeh) (n₀ := ⟨[("nothing", nothPV)], none, none⟩) (elt := LE (argOf (LE eBeh) 0)) (t := LT (argOf (LE eBeh) 0)) (ifs := LI (argOf (LE eBeh) 0)) signPV (fun c => ⟨[("nothing", nothPV), ("sign", signPV c)], none, none⟩) inB1 signPV (ds := l) (fun _ => rfl) (fun _ _ => rfl)
    (fun c _ => Tvs.one (Tv.cmp (Ev.name rfl rfl rfl rfl) (Ev.name rfl rfl rfl rfl) (in_nothing c) rfl)) (fun c _ _ => Ev.name rfl rfl rfl rfl)
  rw [← tx_signs] at ha
  have e : ((takenN l : Nat) : Int) = ((((l.filter inB1).map signPV).length : Nat) : Int) := by unfold takenN; rw [List.length_map, List.countP_eq_length_filter]
  have hz : ((l.filter inB1).map signPV).length ≤ 4096 := by rw [List.length_map]; have := List.length_filter_le inB1 l; omega
  rw [e]
  exact Ev.callB rfl (glb_len w) rfl (Evs.cons (Ev.comp (by decide +kernel) (Src.str (Ev.name rfl rfl rfl rfl)) (fun _ _ => rfl) (LoopOk.one rfl ha (small_of hz))) Evs.nil (fun _ => rfl)) (Cal.lenL (small_of hz)) (fun _ => rfl) (fun _ _ => rfl)
end
end L02

end
noncomputable section
open PySem PySem.W PyProof.Rows PySem.Calls Mine
set_option Elab.async false
set_option linter.unusedVariables false
set_option maxRecDepth 100000
namespace L02
noncomputable section
theorem glb_isi (w : World) : Glb (Gd w) "isinstance" (.builtin "isinstance") := .inr ⟨by kernel_rfl, by kernel_rfl⟩
theorem glb_bool (w : World) : Glb (Gd w) "bool" (.type "bool") := .inr ⟨by kernel_rfl, by kernel_rfl⟩
/-- what lies at a place of the three lists -/
structure Got3 (I Pl Be : List PV) (i : Int) (wd : List Nat) (b : Nat) : Prop where
  ind : itemPV (.list I) i = some (inPV wd b)
  plc : itemPV (.list Pl) i = some (.list (nats (placesOf wd)))
  beh : itemPV (.list Be) i = some (.int (b : Nat))
  ne : wd ≠ []
  len : wd.length ≤ 20
  abc : ∀ c ∈ wd, 97 ≤ c ∧ c ≤ 122
  b : b ≤ 100
theorem Got3.pne {I Pl Be : List PV} {i : Int} {wd : List Nat} {b : Nat} (G : Got3 I Pl Be i wd b) : placesOf wd ≠ [] := by unfold placesOf; simpa using G.ne
theorem Got3.mx {I Pl Be : List PV} {i : Int} {wd : List Nat} {b : Nat} (G : Got3 I Pl Be i wd b) : Ws.mx (placesOf wd) ≤ 26 := mx_le (places_le fun c hc => (G.abc c hc).2)
theorem Got3.small {I Pl Be : List PV} {i : Int} {wd : List Nat} {b : Nat} (G : Got3 I Pl Be i wd b) : Small (placesOf wd) b := ⟨by rw [Ws.mx_counts G.pne]; have := G.mx; omega, by have := G.b; omega⟩
theorem places_len (wd : List Nat) : (placesOf wd).length = wd.length := by simp [placesOf]
def nmZ (S N sp dr ag ne ss fo : PV) (I Pl Be : List PV) (more : List (Str × PV)) : Nm := ⟨([("script", S), ("numbers", N), ("nothing", nothPV), ("spelling", sp), ("drawn", dr), ("again", ag), ("near", ne), ("spellings", ss), ("found", fo), ("indents", .list I), ("places", .list Pl), ("behind", .list Be)] : List (Str × PV)) ++ more, none, none⟩
def lawFor : List Stmt := aFor2 (st 11)
def ft (i : Nat) : Stmt := stAt lawFor i
theorem neNorm (l : List Nat) (a : Nat) : cmpPV .NotEq (.tup [.tup (nats l), .int a]) (.tup [.tup (nats l), .int a]) = some false := by
  show (match eqPV (.tup [.tup (nats l), .int a]) (.tup [.tup (nats l), .int a]) with | some r => some (!r) | none => none) = _
  rw [eqNorm]; simp
theorem count_cast (l : List Nat) (j : Nat) : (l.map fun (c : Nat) => (c : Int)).count (j : Int) = l.count j := by
  induction l with
  | nil => rfl
  | cons a l ih =>
    rw [List.map_cons, List.count_cons, List.count_cons, ih]
    by_cases q : a = j
    · subst q; simp
    · have : ¬ (a : Int) = (j : Int) := by omega
      simp [q, this]
theorem eq_ints (l m : List Int) : cmpPV .Eq (.list (l.map PV.int)) (.list (m.map PV.int)) = some (decide (l = m)) := by
  have h1 := fun l : List Int => mapO_ints PV.int PyData.int 2 (fun s => rfl) l
  have h2 : ∀ l : List Int, pyd 3 (.list (l.map PV.int)) = some (.list (l.map PyData.int)) := fun l => by simp only [pyd, h1]
  show eqPV (.list (l.map PV.int)) (.list (m.map PV.int)) = _
  unfold eqPV
  rw [h2, h2]
  simp only [PyData.eqv, eqvAll_ints PyData.int (fun _ _ => rfl)]
theorem counts_range {cs : List Nat} (h : cs ≠ []) : (List.range (Ws.mx cs + 1)).map (fun j => cs.count j) = Ws.counts cs := by
  unfold Ws.counts
  rw [if_neg h]
theorem cast_perm {l m : List Nat} : (l.map fun (c : Nat) => (c : Int)).Perm (m.map fun (c : Nat) => (c : Int)) ↔ l.Perm m := by
  constructor
  · intro h
    have := h.map Int.toNat
    simpa [List.map_map, Function.comp_def] using this
  · intro h; exact h.map _
/-- sorted of a list of numbers -/
theorem sorted_cal {P : Par} {k : Nat} (cs : List Nat) (h : cs.length < 64) : ∃ M : List Int, M.Perm (cs.map fun (c : Nat) => (c : Int)) ∧ M.Pairwise (· ≤ ·) ∧ Cal P k (.builtin "sorted") [.list (nats cs)] (.list (M.map PV.int)) := by
  obtain ⟨M, h1, h2⟩ := sorted_of cs
  have p1 : (M.map fun (c : Nat) => (c : Int)).Perm (cs.map fun (c : Nat) => (c : Int)) := h1.map _
  have p2 : (M.map fun (c : Nat) => (c : Int)).Pairwise (· ≤ ·) := List.Pairwise.map _ (fun a b hab => Int.ofNat_le.mpr hab) h2
  refine ⟨_, p1, p2, ?_⟩
  rw [nats_map cs]
  exact Cal.sortedI p1 p2 (by rw [List.length_map]; exact h)
theorem turnK_ok (w : World) (S N sp dr ag ne ss fo : PV) (I Pl Be : List PV) (j : Nat) (hj : j ≤ 2) (wd wd' : List Nat) (b b' : Nat) (G : Got3 I Pl Be (j : Int) wd b) (G' : Got3 I Pl Be ((j : Int) - 1) wd' b') (n₁ : Nm)
    (hn : n₁ = nmZ S N sp dr ag ne ss fo I Pl Be [("k", .int (j : Nat))] ∨ ∃ c a, n₁ = nmZ S N sp dr ag ne ss fo I Pl Be [("k", .int (j : Nat)), ("counts", c), ("answer", a)]) :
    ∃ c a, Ex (Gd w) 4 fd_law.scope n₁ lawFor (.next (nmZ S N sp dr ag ne ss fo I Pl Be [("k", .int (j : Nat)), ("counts", c), ("answer", a)])) := by
  have hm := G.mx
  have hpl := places_len wd
  have hpl' := places_len wd'
  have hl := G.len
  have hl' := G'.len
  have hcl : (Ws.counts (placesOf wd)).length = Ws.mx (placesOf wd) + 1 := Ws.mx_counts G.pne
  -- the counts
  obtain ⟨na, ha⟩ := Cp1.mapT (P := Gd w) (k := 4) (sc := relab (LS (aAsg1 (ft 0))) fd_law.scope) (n₀ := ⟨[("places", .list Pl), ("k", .int (j : Nat))], none, none⟩) (elt := LE (aAsg1 (ft 0))) (t := LT (aAsg1 (ft 0))) (fun (x : Nat) => PV.int (x : Int)) (fun x => ⟨[("places", .list Pl), ("k", .int (j : Nat)), ("place", .int (x : Nat))], none, none⟩) (fun x => PV.int ((placesOf wd).count x : Nat)) (ds := List.range (Ws.mx (placesOf wd) + 1)) (fun _ => rfl) (fun _ _ => rfl)
    (fun x _ => by
      have := Cal.count (P := Gd w) (k := 4) (ns := (placesOf wd).map fun (c : Nat) => (c : Int)) (i := (x : Nat))
      rw [count_cast, ← nats_map] at this
      exact Ev.bmeth (Ev.item (Ev.name rfl rfl rfl rfl).w (Ev.name rfl rfl rfl rfl) G.plc) (Evs.cons (Ev.name rfl rfl rfl rfl) Evs.nil (fun _ => rfl)) PySem.F.plainAttrs_list PySem.F.slot_list_count PySem.F.type_list_count (.inr ⟨_, rfl, rfl⟩) this (fun _ => rfl) (fun _ _ => rfl) (fun _ => ⟨_, rfl⟩))
  have ea : (List.range (Ws.mx (placesOf wd) + 1)).map (fun x => PV.int ((placesOf wd).count x : Nat)) = nats (Ws.counts (placesOf wd)) := by
    rw [← counts_range G.pne]
    unfold nats; rw [List.map_map]; rfl
  rw [ea, ← nums0] at ha
  have hmax : Cal (Gd w) 4 (.builtin "max") [.list (nats (placesOf wd))] (.int (Ws.mx (placesOf wd) : Nat)) := by
    rw [nats_map]
    refine Cal.maxL (List.mem_map.mpr ⟨_, Ws.mx_mem G.pne, rfl⟩) fun a ha => ?_
    obtain ⟨c, hc, rfl⟩ := List.mem_map.mp ha
    have := Ws.le_mx hc
    omega
  have src : ∀ n₁ : Nm, n₁.ρ.lookup ("places" : Str) = some (.list Pl) → n₁.ρ.lookup ("k" : Str) = some (.int (j : Nat)) → Src (Gd w) 4 fd_law.scope n₁ (aC1 (cpAt (aLC1 (aAsg1 (ft 0))) 0)) (Mine.numsOf 0 ((Ws.mx (placesOf wd) + 1 : Nat) : Int)) := fun n₁ q1 q2 =>
    Src.range1 rfl (glb_range w) rfl (Evs.cons (inc (Ev.callB rfl (glb_max w) rfl (Evs.cons (Ev.item (Ev.name rfl q1 rfl rfl).w (Ev.name rfl q2 rfl rfl) G.plc) Evs.nil (fun _ => rfl)) hmax (fun _ => rfl) (fun _ _ => rfl))) Evs.nil (fun _ => rfl)) (smallI_of (by omega)) (fun _ => rfl)
  -- sorted
  obtain ⟨M, m1, m2, m3⟩ := sorted_cal (P := Gd w) (k := 4) (placesOf wd) (by omega)
  obtain ⟨M', m1', m2', m3'⟩ := sorted_cal (P := Gd w) (k := 4) (placesOf wd') (by omega)
  have same : decide (Ws.counts (placesOf wd') = Ws.counts (placesOf wd) ∧ b' = b) = (decide (M' = M) && decide (b' = b)) := by
    have : Ws.counts (placesOf wd') = Ws.counts (placesOf wd) ↔ M' = M := by
      rw [counts_perm]
      constructor
      · intro h
        exact sorted_unique ((m1'.trans (cast_perm.mpr h)).trans m1.symm) m2' m2
      · intro h
        subst h
        exact cast_perm.mp (m1'.symm.trans m1)
    rw [Bool.eq_iff_iff, Bool.and_eq_true, decide_eq_true_iff, decide_eq_true_iff, decide_eq_true_iff, this]
  have eqB : cmpPV .Eq (.int (b' : Nat)) (.int (b : Nat)) = some (decide (b' = b)) := by
    show eqPV (.int (b' : Nat)) (.int (b : Nat)) = _
    rw [eqInt]
    congr 1
    rw [Bool.eq_iff_iff, beq_iff_eq, decide_eq_true_iff]
    omega
  have neB : ∀ x y : Bool, x = y → cmpPV .NotEq (.bool x) (.bool y) = some false := fun x y h => by subst h; cases x <;> kernel_rfl
  have rest : Ex (Gd w) 4 fd_law.scope (nmZ S N sp dr ag ne ss fo I Pl Be [("k", .int (j : Nat)), ("counts", .list (nats (Ws.counts (placesOf wd))))]) [ft 1, ft 2, ft 3]
      (.next (nmZ S N sp dr ag ne ss fo I Pl Be [("k", .int (j : Nat)), ("counts", .list (nats (Ws.counts (placesOf wd)))), ("answer", .bool (decide (Ws.counts (placesOf wd') = Ws.counts (placesOf wd) ∧ b' = b)))])) ∧
      ∀ a, Ex (Gd w) 4 fd_law.scope (nmZ S N sp dr ag ne ss fo I Pl Be [("k", .int (j : Nat)), ("counts", .list (nats (Ws.counts (placesOf wd)))), ("answer", a)]) [ft 1, ft 2, ft 3]
      (.next (nmZ S N sp dr ag ne ss fo I Pl Be [("k", .int (j : Nat)), ("counts", .list (nats (Ws.counts (placesOf wd)))), ("answer", .bool (decide (Ws.counts (placesOf wd') = Ws.counts (placesOf wd) ∧ b' = b)))])) := by
    have c1 : ∀ n : Nm, n.ρ.lookup ("places" : Str) = some (.list Pl) → n.ρ.lookup ("indents" : Str) = some (.list I) → n.ρ.lookup ("behind" : Str) = some (.list Be) → n.ρ.lookup ("k" : Str) = some (.int (j : Nat)) → n.ρ.lookup ("counts" : Str) = some (.list (nats (Ws.counts (placesOf wd)))) → Ex1 (Gd w) 4 fd_law.scope n (ft 1) (.next n) := fun n q1 q2 q3 q4 q5 =>
      Ex1.ifF (Tv.cmp (a := .tup [.tup (nats (Ws.counts (placesOf wd))), .int b]) (Ev.attr (kls w) (Ev.item (Ev.name rfl q2 rfl rfl).w (Ev.name rfl q4 rfl rfl) G.ind) rfl (mN_norm w.params) oB_norm (fun _ => rfl))
        (Ev.tup (Evs.cons (Ev.tupleOf rfl (glb_tuple w) rfl (Ev.name rfl q5 rfl rfl).w (small_of (by rw [nats_len]; omega)) (fun _ => rfl)) (Evs.cons (Ev.item (Ev.name rfl q3 rfl rfl).w (Ev.name rfl q4 rfl rfl) G.beh) Evs.nil (fun _ => rfl)) (fun _ => rfl)) rfl) (neNorm _ _) rfl) Ex.nil
    have c2 : ∀ n : Nm, n.ρ.lookup ("indents" : Str) = some (.list I) → n.ρ.lookup ("k" : Str) = some (.int (j : Nat)) → Ev (Gd w) 4 fd_law.scope n (aAsg1 (ft 2)) (.bool (decide (Ws.counts (placesOf wd') = Ws.counts (placesOf wd) ∧ b' = b))) := fun n q1 q2 =>
      Ev.meth (kls w) (Ev.item (Ev.name rfl q1 rfl rfl).w (Ev.subI (Ev.name rfl q2 rfl rfl) (Ev.int 1 _ _)) G'.ind) (Evs.cons (Ev.item (Ev.name rfl q1 rfl rfl).w (Ev.name rfl q2 rfl rfl) G.ind) Evs.nil (fun _ => rfl)) (mN_equal w.params) (at_equal w.params) rfl rfl rfl oB_equal ((equal_ok w _ _ _ _ _ _).le (by decide)) (fun _ => rfl) (fun _ => ⟨_, rfl⟩)
    have c3 : ∀ n : Nm, n.ρ.lookup ("places" : Str) = some (.list Pl) → n.ρ.lookup ("behind" : Str) = some (.list Be) → n.ρ.lookup ("k" : Str) = some (.int (j : Nat)) → n.ρ.lookup ("answer" : Str) = some (.bool (decide (Ws.counts (placesOf wd') = Ws.counts (placesOf wd) ∧ b' = b))) → Ex1 (Gd w) 4 fd_law.scope n (ft 3) (.next n) := fun n q1 q2 q3 q4 =>
      Ex1.ifF (Tv.or2 (Tv.not (t := true) (Tv.val (Ev.isBool rfl (glb_isi w) rfl rfl (glb_bool w) rfl (Ev.name rfl q4 rfl rfl) (fun _ => rfl) (fun _ => rfl) (fun _ _ => rfl)) (fun _ _ => rfl)))
        (Tv.cmp (Ev.name rfl q4 rfl rfl) (Ev.and2
          (Ev.cmp (Ev.callB rfl (glb_sorted w) rfl (Evs.cons (Ev.item (Ev.name rfl q1 rfl rfl).w (Ev.subI (Ev.name rfl q3 rfl rfl) (Ev.int 1 _ _)) G'.plc) Evs.nil (fun _ => rfl)) m3' (fun _ => rfl) (fun _ _ => rfl))
            (Ev.callB rfl (glb_sorted w) rfl (Evs.cons (Ev.item (Ev.name rfl q1 rfl rfl).w (Ev.name rfl q3 rfl rfl) G.plc) Evs.nil (fun _ => rfl)) m3 (fun _ => rfl) (fun _ _ => rfl)) (eq_ints M' M) rfl)
          (fun _ => Ev.cmp (Ev.item (Ev.name rfl q2 rfl rfl).w (Ev.subI (Ev.name rfl q3 rfl rfl) (Ev.int 1 _ _)) G'.beh) (Ev.item (Ev.name rfl q2 rfl rfl).w (Ev.name rfl q3 rfl rfl) G.beh) eqB rfl)) (neB _ _ same) rfl)) Ex.nil
    refine ⟨?_, fun a => ?_⟩
    · refine Ex.cons (c1 _ rfl rfl rfl rfl rfl) (Ex.cons (n₁ := nmZ S N sp dr ag ne ss fo I Pl Be [("k", .int (j : Nat)), ("counts", .list (nats (Ws.counts (placesOf wd)))), ("answer", .bool (decide (Ws.counts (placesOf wd') = Ws.counts (placesOf wd) ∧ b' = b)))]) (Ex1.assign (c2 _ rfl rfl) rfl (fun _ => rfl)) (Ex.cons (c3 _ rfl rfl rfl rfl) Ex.nil))
    · refine Ex.cons (c1 _ rfl rfl rfl rfl rfl) (Ex.cons (n₁ := nmZ S N sp dr ag ne ss fo I Pl Be [("k", .int (j : Nat)), ("counts", .list (nats (Ws.counts (placesOf wd)))), ("answer", .bool (decide (Ws.counts (placesOf wd') = Ws.counts (placesOf wd) ∧ b' = b)))]) (Ex1.assign (c2 _ rfl rfl) rfl (fun _ => rfl)) (Ex.cons (c3 _ rfl rfl rfl rfl) Ex.nil))
  have hz : small (nats (Ws.counts (placesOf wd))).length = true := small_of (by rw [nats_len]; omega)
  refine ⟨.list (nats (Ws.counts (placesOf wd))), .bool (decide (Ws.counts (placesOf wd') = Ws.counts (placesOf wd) ∧ b' = b)), ?_⟩
  rcases hn with rfl | ⟨c, a, rfl⟩
  · refine Ex.cons (n₁ := nmZ S N sp dr ag ne ss fo I Pl Be [("k", .int (j : Nat)), ("counts", .list (nats (Ws.counts (placesOf wd))))]) (Ex1.assignComp (by decide +kernel) (src _ rfl rfl) (fun _ _ => rfl) (LoopOk.one rfl ha hz) rfl (fun env he => by
      obtain ⟨scope, l, g, cells, q, f, c, fr, bn⟩ := env
      subst he
      rfl)) rest.1
  · refine Ex.cons (n₁ := nmZ S N sp dr ag ne ss fo I Pl Be [("k", .int (j : Nat)), ("counts", .list (nats (Ws.counts (placesOf wd)))), ("answer", a)]) (Ex1.assignComp (by decide +kernel) (src _ rfl rfl) (fun _ _ => rfl) (LoopOk.one rfl ha hz) rfl (fun env he => by
      obtain ⟨scope, l, g, cells, q, f, c, fr, bn⟩ := env
      subst he
      rfl)) (rest.2 a)
end
end L02

end
noncomputable section
open PySem PySem.W PyProof.Rows PySem.Calls Mine
set_option Elab.async false
set_option linter.unusedVariables false
set_option maxRecDepth 100000
namespace L02
noncomputable section
theorem eqvAll_refl : ∀ l : List PyData, (∀ x ∈ l, PyData.eqv x x = true) → PyData.eqvAll l l = true
  | [], _ => by simp [PyData.eqvAll]
  | x :: l, h => by simp only [PyData.eqvAll, h x (.head _), eqvAll_refl l fun y hy => h y (.tail _ hy), Bool.and_self]
theorem eq_rows (cs ds : List Nat) (b e : Nat) (l : List Nat) : cmpPV .Eq (.list (l.map (row3 cs ds b e))) (.list (l.map (row3 cs ds b e))) = some true := by
  have h1 := mapO_ints (row3 cs ds b e) (fun (s : Nat) => PyData.tuple [.int (s : Int), .int (Ws.level s cs b : Nat), .int (Ws.level s ds e : Nat)]) 2 (fun s => rfl) l
  have h2 : pyd 3 (.list (l.map (row3 cs ds b e))) = some (.list (l.map fun (s : Nat) => PyData.tuple [.int (s : Int), .int (Ws.level s cs b : Nat), .int (Ws.level s ds e : Nat)])) := by simp only [pyd, h1]
  show eqPV (.list (l.map (row3 cs ds b e))) (.list (l.map (row3 cs ds b e))) = some true
  unfold eqPV
  rw [h2]
  simp only [PyData.eqv]
  rw [eqvAll_refl]
  intro x hx
  obtain ⟨s, _, rfl⟩ := List.mem_map.mp hx
  simp [PyData.eqv, PyData.eqvAll]
theorem widest_mem (cs : List Nat) (b : Nat) : Ws.widest cs b ∈ cs ++ [b] := by
  unfold Ws.widest
  by_cases e : cs = []
  · subst e; simp [Ws.mx]
  · by_cases q : Ws.mx cs ≤ b
    · rw [Nat.max_eq_right q]; simp
    · rw [Nat.max_eq_left (by omega)]; exact List.mem_append_left _ (Ws.mx_mem e)
theorem le_widest {cs : List Nat} {b x : Nat} (h : x ∈ cs ++ [b]) : x ≤ Ws.widest cs b := by
  unfold Ws.widest
  rcases List.mem_append.mp h with h | h
  · have := Ws.le_mx h; omega
  · simp at h; omega
theorem mem_sizes {m s : Nat} : s ∈ sizes m ↔ 1 ≤ s ∧ s ≤ m := by
  unfold sizes
  rw [List.mem_map]
  constructor
  · rintro ⟨j, hj, rfl⟩
    have := List.mem_range.mp hj
    omega
  · rintro ⟨h1, h2⟩
    exact ⟨s - 1, List.mem_range.mpr (by omega), by omega⟩
theorem sizes_len (m : Nat) : (sizes m).length = m := by simp [sizes]
def eTab : Expr := aAsg1 (st 15)
def eRows : Expr := exAt (aCmp2 (aRet0 (st 16))) 0
/-- the end: which of the two comes first does not matter -/
theorem end_ok (w : World) (S N sp dr ag ne ss fo : PV) (I Pl Be : List PV) (c a : PV) (h t : Int) (wh wt w1 w2 : List Nat) (bh bt b1 b2 : Nat) (H : Got3 I Pl Be h wh bh) (T : Got3 I Pl Be t wt bt) (G1 : Got3 I Pl Be 1 w1 b1) (G2 : Got3 I Pl Be 2 w2 b2)
    (hm : most (placesOf wh) (placesOf wt) bh bt = most (placesOf w1) (placesOf w2) b1 b2)
    (hh : ∀ n : Nm, n.ρ.lookup ("drawn" : Str) = some dr → Ev (Gd w) 4 fd_law.scope n (aAsg1 (st 12)) (.int h)) (ht : t = 3 - h) :
    Ex (Gd w) 4 fd_law.scope (nmZ S N sp dr ag ne ss fo I Pl Be [("k", .int (2 : Nat)), ("counts", c), ("answer", a)]) [st 12, st 13, st 14, st 15, st 16] (.ret (.bool true)) := by
  have s1 := G1.small.wide
  have s2 := G2.small.wide
  have hM : most (placesOf w1) (placesOf w2) b1 b2 ≤ 1001 := by unfold most; omega
  have l1 := G1.len
  have l2 := G2.len
  have lh := H.len
  have lt := T.len
  have p1 := places_len w1
  have p2 := places_len w2
  have ph := places_len wh
  have pt := places_len wt
  refine Ex.cons (n₁ := nmZ S N sp dr ag ne ss fo I Pl Be [("k", .int (2 : Nat)), ("counts", c), ("answer", a), ("here", .int h)]) (Ex1.assign (hh _ rfl) rfl (fun _ => rfl)) ?_
  refine Ex.cons (n₁ := nmZ S N sp dr ag ne ss fo I Pl Be [("k", .int (2 : Nat)), ("counts", c), ("answer", a), ("here", .int h), ("there", .int t)]) (Ex1.assign (by rw [ht]; exact Ev.subI (Ev.int _ _ _) (Ev.name rfl rfl rfl rfl)) rfl (fun _ => rfl)) ?_
  -- the widest
  have cat : (nats (placesOf w1) ++ nats (placesOf w2)) ++ [PV.int (b1 : Nat), .int (b2 : Nat)] = (((placesOf w1 ++ placesOf w2) ++ [b1, b2]).map fun (c : Nat) => (c : Int)).map PV.int := by simp [nats, Function.comp_def]
  have hmax : Cal (Gd w) 4 (.builtin "max") [.list ((nats (placesOf w1) ++ nats (placesOf w2)) ++ [PV.int (b1 : Nat), .int (b2 : Nat)])] (.int (max (Ws.widest (placesOf w1) b1) (Ws.widest (placesOf w2) b2) : Nat)) := by
    rw [cat]
    refine Cal.maxL (List.mem_map.mpr ⟨_, ?_, rfl⟩) fun x hx => ?_
    · have m1 := List.mem_append.mp (widest_mem (placesOf w1) b1)
      have m2 := List.mem_append.mp (widest_mem (placesOf w2) b2)
      by_cases q : Ws.widest (placesOf w1) b1 ≤ Ws.widest (placesOf w2) b2
      · rw [Nat.max_eq_right q]
        rcases m2 with m | m
        · exact List.mem_append_left _ (List.mem_append_right _ m)
        · refine List.mem_append_right _ ?_
          rw [List.mem_singleton.mp m]; simp
      · rw [Nat.max_eq_left (by omega)]
        rcases m1 with m | m
        · exact List.mem_append_left _ (List.mem_append_left _ m)
        · refine List.mem_append_right _ ?_
          rw [List.mem_singleton.mp m]; simp
    · obtain ⟨y, hy, rfl⟩ := List.mem_map.mp hx
      have hy' : y ∈ placesOf w1 ++ [b1] ∨ y ∈ placesOf w2 ++ [b2] := by
        simp only [List.mem_append, List.mem_cons, List.not_mem_nil, or_false] at hy ⊢
        rcases hy with (q | q) | q | q
        · exact .inl (.inl q)
        · exact .inr (.inl q)
        · exact .inl (.inr q)
        · exact .inr (.inr q)
      rcases hy' with hy | hy
      · have := le_widest hy; omega
      · have := le_widest hy; omega
  have e1 : ((most (placesOf w1) (placesOf w2) b1 b2 : Nat) : Int) = ((max (Ws.widest (placesOf w1) b1) (Ws.widest (placesOf w2) b2) : Nat) : Int) + 1 := by unfold most; omega
  refine Ex.cons (n₁ := nmZ S N sp dr ag ne ss fo I Pl Be [("k", .int (2 : Nat)), ("counts", c), ("answer", a), ("here", .int h), ("there", .int t), ("most", .int (most (placesOf w1) (placesOf w2) b1 b2 : Nat))]) (Ex1.assign ?_ rfl (fun _ => rfl)) ?_
  · rw [e1]
    exact Ev.addI (Ev.callB rfl (glb_max w) rfl (Evs.cons (Ev.addL (Ev.addL (Ev.item (Ev.name rfl rfl rfl rfl).w (Ev.int 1 _ _) G1.plc) (Ev.item (Ev.name rfl rfl rfl rfl).w (Ev.int 2 _ _) G2.plc) (by rw [nats_len, nats_len]; omega))
      (Ev.list (Evs.cons (Ev.item (Ev.name rfl rfl rfl rfl).w (Ev.int 1 _ _) G1.beh) (Evs.cons (Ev.item (Ev.name rfl rfl rfl rfl).w (Ev.int 2 _ _) G2.beh) Evs.nil (fun _ => rfl)) (fun _ => rfl)) rfl) (by rw [List.length_append, nats_len, nats_len]; simp; omega)) Evs.nil (fun _ => rfl)) hmax (fun _ => rfl) (fun _ _ => rfl)) (Ev.int _ _ _)
  -- the table
  generalize hMe : most (placesOf w1) (placesOf w2) b1 b2 = m at hM hm ⊢
  obtain ⟨na, ha⟩ := Cp1.mapT (P := Gd w) (k := 4) (sc := relab (LS eTab) fd_law.scope) (n₀ := ⟨[("places", .list Pl), ("behind", .list Be), ("here", .int h), ("there", .int t)], none, none⟩) (elt := LE eTab) (t := LT eTab) (fun (s : Nat) => PV.int (s : Int)) (fun s => ⟨[("places", .list Pl), ("behind", .list Be), ("here", .int h), ("there", .int t), ("size", .int (s : Nat))], none, none⟩) (row3 (placesOf wh) (placesOf wt) bh bt) (ds := sizes m) (fun _ => rfl) (fun _ _ => rfl)
    (fun s hs => by
      obtain ⟨q1, q2⟩ := mem_sizes.mp hs
      refine Ev.tup (Evs.cons (Ev.name rfl rfl rfl rfl) (Evs.cons ?_ (Evs.cons ?_ Evs.nil (fun _ => rfl)) (fun _ => rfl)) (fun _ => rfl)) rfl
      · exact Ev.callF rfl (glb_column w) rfl (at_column w.params) rfl (Evs.cons (Ev.item (Ev.name rfl rfl rfl rfl).w (Ev.name rfl rfl rfl rfl) H.plc) (Evs.cons (Ev.item (Ev.name rfl rfl rfl rfl).w (Ev.name rfl rfl rfl rfl) H.beh) (Evs.cons (Ev.name rfl rfl rfl rfl) Evs.nil (fun _ => rfl)) (fun _ => rfl)) (fun _ => rfl)) ((column_ok w _ bh s q1 (by omega)).le (by decide)) (fun _ => rfl)
      · exact Ev.callF rfl (glb_column w) rfl (at_column w.params) rfl (Evs.cons (Ev.item (Ev.name rfl rfl rfl rfl).w (Ev.name rfl rfl rfl rfl) T.plc) (Evs.cons (Ev.item (Ev.name rfl rfl rfl rfl).w (Ev.name rfl rfl rfl rfl) T.beh) (Evs.cons (Ev.name rfl rfl rfl rfl) Evs.nil (fun _ => rfl)) (fun _ => rfl)) (fun _ => rfl)) ((column_ok w _ bt s q1 (by omega)).le (by decide)) (fun _ => rfl))
  rw [← nums1] at ha
  have src : ∀ n : Nm, n.ρ.lookup ("most" : Str) = some (.int (m : Nat)) → Src (Gd w) 4 fd_law.scope n (aC1 (cpAt (aLC1 eTab) 0)) (Mine.numsOf 1 ((m : Int) + 1)) := fun n q =>
    Src.range2 rfl (glb_range w) rfl (Evs.cons (Ev.int _ _ _) (Evs.cons (Ev.addI (Ev.name rfl q rfl rfl) (Ev.int _ _ _)) Evs.nil (fun _ => rfl)) (fun _ => rfl)) rfl (smallI_of (by omega)) (fun _ => rfl) (fun _ _ => rfl)
  refine Ex.cons (n₁ := nmZ S N sp dr ag ne ss fo I Pl Be [("k", .int (2 : Nat)), ("counts", c), ("answer", a), ("here", .int h), ("there", .int t), ("most", .int (m : Nat)), ("table", .list ((sizes m).map (row3 (placesOf wh) (placesOf wt) bh bt)))]) (Ex1.assignComp (by decide +kernel) (src _ rfl) (fun _ _ => rfl) (LoopOk.one rfl ha (small_of (by rw [List.length_map, sizes_len]; omega))) rfl (fun env he => by
      obtain ⟨scope, l, g, cells, q, f, c, fr, bn⟩ := env
      subst he
      rfl)) ?_
  -- the rows that part
  obtain ⟨nb, hb⟩ := Cp1.filterT (P := Gd w) (k := 4) (sc := relab (LS eRows) fd_law.scope) (n₀ := ⟨[], none, none⟩) (elt := LE eRows) (t := LT eRows) (ifs := LI eRows) (row3 (placesOf wh) (placesOf wt) bh bt) (fun s => ⟨[("row", row3 (placesOf wh) (placesOf wt) bh bt s)], none, none⟩) (fun s => (Ws.level s (placesOf wh) bh != Ws.level s (placesOf wt) bt)) (row3 (placesOf wh) (placesOf wt) bh bt) (ds := sizes m) (fun _ => rfl) (fun _ _ => rfl)
    (fun s _ => Tvs.one (Tv.cmp (Ev.atT (j := 1) (Ev.name rfl rfl rfl rfl) (Ev.int _ _ _) (by decide) (by decide) rfl) (Ev.atT (j := 2) (Ev.name rfl rfl rfl rfl) (Ev.int _ _ _) (by decide) (by decide) rfl) (neNat _ _) rfl)) (fun s _ _ => Ev.name rfl rfl rfl rfl)
  have nw := not_equal_witness_ok w (tx (indL wh bh)) (tx (indL wt bt)) (placesOf wh) (placesOf wt) bh bt H.small T.small
  rw [hm] at nw
  have flen : ((sizes m).filter fun s => (Ws.level s (placesOf wh) bh != Ws.level s (placesOf wt) bt)).length ≤ 1001 := Nat.le_trans (List.length_filter_le _ _) (by rw [sizes_len]; exact hM)
  exact Ex.ret (Ex1.ret (Ev.cmp (Ev.meth (kls w) (Ev.item (Ev.name rfl rfl rfl rfl).w (Ev.name rfl rfl rfl rfl) H.ind) (Evs.cons (Ev.item (Ev.name rfl rfl rfl rfl).w (Ev.name rfl rfl rfl rfl) T.ind) Evs.nil (fun _ => rfl)) (mN_new w.params) (at_not_equal_witness w.params) rfl rfl rfl oB_new (nw.le (by decide)) (fun _ => rfl) (fun _ => ⟨_, rfl⟩))
    (Ev.comp (by decide +kernel) (Src.list (Ev.name rfl rfl rfl rfl)) (fun _ _ => rfl) (LoopOk.one rfl hb (small_of (by rw [List.length_map]; omega)))) (eq_rows _ _ _ _ _) rfl))
end
end L02

end
noncomputable section
open PySem PySem.W PyProof.Rows PySem.Calls Mine
set_option Elab.async false
set_option linter.unusedVariables false
set_option maxRecDepth 100000
namespace L02
noncomputable section
/-! the words of a script -/
theorem cut_map {α β : Type} (f : α → β) (lo hi : Option Int) (xs : List α) : Mine.cut lo hi (xs.map f) = (Mine.cut lo hi xs).map f := by
  rw [cut_eq, cut_eq, List.length_map, List.map_drop, List.map_take]
theorem cut3_len (xs : List Int) : (Mine.cut none (some 3) xs).length ≤ 3 := by
  rw [cut_eq, List.length_drop, List.length_take]
  unfold clipB
  simp only
  rw [if_neg (by decide)]
  omega
theorem cut_mid (a : Nat) (mid : List Nat) (z : Nat) : Mine.cut (some 1) (some (-1)) (a :: (mid ++ [z])) = mid := by
  rw [cut_eq]
  unfold clipB
  have e1 : (max 0 (min (if (-1 : Int) < 0 then -1 + ((a :: (mid ++ [z])).length : Int) else -1) ((a :: (mid ++ [z])).length : Int))).toNat = mid.length + 1 := by
    rw [if_pos (by decide)]
    simp only [List.length_cons, List.length_append, List.length_nil]
    omega
  have e2 : (max 0 (min (if (1 : Int) < 0 then 1 + ((a :: (mid ++ [z])).length : Int) else 1) ((a :: (mid ++ [z])).length : Int))).toNat = 1 := by
    rw [if_neg (by decide)]
    simp only [List.length_cons, List.length_append, List.length_nil]
    omega
  simp only [e1, e2]
  simp
def nums (ns : List Int) : List Int := [1, 4] ++ Mine.cut none (some 3) ns
theorem nums_len (ns : List Int) : 1 ≤ (nums ns).length ∧ (nums ns).length ≤ 5 := by
  have := cut3_len ns
  unfold nums; rw [List.length_append]
  constructor
  · show 1 ≤ 2 + _; omega
  · show 2 + _ ≤ 5; omega
theorem lt1 : ltOne 1 = [98] := by
  unfold ltOne
  rw [if_neg (by decide)]
  rfl
theorem lt4 : ltOne 4 = [101] := by
  unfold ltOne
  rw [if_neg (by decide)]
  rfl
theorem word_nums (ns : List Int) : wordLt (nums ns) = 98 :: 101 :: wordLt (Mine.cut none (some 3) ns) := by
  unfold nums wordLt
  rw [List.flatMap_append, List.flatMap_cons, List.flatMap_cons, lt1, lt4]; rfl
/-- what the words are, and how they are spelled -/
structure Words (xs : List Int) (M : List Nat) (a : Nat) (mid : List Nat) (z : Nat) : Prop where
  perm : M.Perm (wordLt xs)
  sorted : M.Pairwise (· ≤ ·)
  ends : EndsOk M a mid z
  len : (wordLt xs).length ≤ 15
  abc : ∀ c ∈ M, 97 ≤ c ∧ c ≤ 122
theorem words_of (ns : List Int) : ∃ M a mid z, Words (nums ns) M a mid z := by
  obtain ⟨M, h1, h2⟩ := sorted_of (wordLt (nums ns))
  have hab : ∀ c ∈ M, 97 ≤ c ∧ c ≤ 122 := fun c hc => wordLt_abc _ c (h1.mem_iff.mp hc)
  obtain ⟨a, mid, z, he⟩ := ends_of h2 (h1.mem_iff.mpr (by rw [word_nums]; exact .head _)) (h1.mem_iff.mpr (by rw [word_nums]; exact .tail _ (.head _))) hab
  refine ⟨M, a, mid, z, h1, h2, he, ?_, hab⟩
  have := wordLt_len (nums ns)
  have := (nums_len ns).2
  omega
section
variable {xs : List Int} {M : List Nat} {a : Nat} {mid : List Nat} {z : Nat}
theorem Words.mlen (h : Words xs M a mid z) : M.length ≤ 15 := by rw [h.perm.length_eq]; exact h.len
theorem Words.nlen (h : Words xs M a mid z) : (nearOf a mid z).length = M.length := by rw [h.ends.eq]; simp [nearOf]
theorem Words.nabc (h : Words xs M a mid z) : ∀ c ∈ nearOf a mid z, 97 ≤ c ∧ c ≤ 122 := near_abc h.ends h.abc
end
theorem Ev.lastS {P : Par} {k : Nat} {sc : Scope} {n : Nm} {v i : Expr} {pos : Pos} {l : List Nat} {c : Nat} (hv : Ev P k sc n v (.str (tx (l ++ [c])))) (hi : Ev P k sc n i (.int (-1))) : Ev P k sc n (.Subscript v i pos) (.str (tx [c])) := .item hv.w hi (by
  have e : seqIndex? (-1) (tx (l ++ [c])).length = some l.length := by rw [tx_len, seqIndex_last (by simp)]; simp
  simp only [itemPV]
  have e2 : (tx (l ++ [c])).cps[l.length]? = some c := by rw [← Array.getElem?_toList, tx_list]; simp
  rw [if_pos (by rfl), e, Option.bind_some, e2]; rfl)
theorem mapO_strs (n : Nat) : ∀ l : List (List Nat), (∀ x ∈ l, ∀ c ∈ x, c < 0x110000) → mapO (pyd n) (l.map fun x => PV.str (tx x)) = some (l.map fun x => PyData.str (tx x))
  | [], _ => rfl
  | x :: l, h => by
    have hx : PyData.strOk (tx x) = true := by
      show (tx x).cps.all (· < 0x110000) = true
      rw [← Array.all_toList, tx_list, List.all_eq_true]
      intro c hc
      exact decide_eq_true (h x (.head _) c hc)
    have e : pyd n (.str (tx x)) = some (.str (tx x)) := by cases n <;> simp [pyd, pyd0, hx]
    rw [List.map_cons, List.map_cons]
    simp only [mapO, e, mapO_strs n l fun y hy => h y (.tail _ hy)]
theorem ne_strs (l : List (List Nat)) (h : ∀ x ∈ l, ∀ c ∈ x, c < 0x110000) : cmpPV .NotEq (.list (l.map fun x => PV.str (tx x))) (.list (l.map fun x => PV.str (tx x))) = some false := by
  have h2 : pyd 3 (.list (l.map fun x => PV.str (tx x))) = some (.list (l.map fun x => PyData.str (tx x))) := by simp only [pyd, mapO_strs 2 l h]
  have h3 : eqPV (.list (l.map fun x => PV.str (tx x))) (.list (l.map fun x => PV.str (tx x))) = some true := by
    unfold eqPV
    rw [h2]
    simp only [PyData.eqv]
    rw [eqvAll_refl]
    intro x hx
    obtain ⟨s, _, rfl⟩ := List.mem_map.mp hx
    simp [PyData.eqv]
  show (match eqPV (.list (l.map fun x => PV.str (tx x))) (.list (l.map fun x => PV.str (tx x))) with | some r => some (!r) | none => none) = _
  rw [h3]; rfl
def fndPV (p : List Nat × Nat) : PV := .tup [.str (tx p.1), .int (p.2 : Nat)]
def txPV (l : List Nat) : PV := .str (tx l)
def eSpl (i : Nat) : Expr := argOf (exAt (aList0 (aAsg1 (st 5))) i) 1
def eFnd : Expr := aAsg1 (st 6)
def eWrd : Expr := aCmp0 (aIf0 (st 7))
/-- the first statements: the words and their spellings -/
def nmS (S : PV) (xs : List Int) (M nr : List Nat) (more : List (Str × PV)) : Nm := ⟨([("script", S), ("numbers", .list (xs.map PV.int)), ("nothing", nothPV), ("spelling", txPV (wordSp xs)), ("drawn", txPV (wordLt xs)), ("again", txPV M), ("near", txPV nr)] : List (Str × PV)) ++ more, none, none⟩
theorem again_ok (w : World) (S : PV) (xs : List Int) (M : List Nat) (a : Nat) (mid : List Nat) (z : Nat) (h : Words xs M a mid z) :
    Ev (Gd w) 4 fd_law.scope ⟨[("script", S), ("numbers", .list (xs.map PV.int)), ("nothing", nothPV), ("spelling", txPV (wordSp xs)), ("drawn", txPV (wordLt xs))], none, none⟩ (aAsg1 (st 3)) (txPV M) := by
  have hm := h.mlen
  have hl := h.len
  have jn := join_ok (P := Gd w) (k := 4) (fun c => [c]) M 1 (fun c _ => Nat.le_refl _) (by omega)
  rw [List.flatMap_singleton'] at jn
  exact Ev.bmeth (Ev.str _ _ _) (Evs.cons (Ev.callB rfl (glb_sorted w) rfl (Evs.cons (Ev.name rfl rfl rfl rfl) Evs.nil (fun _ => rfl)) (Cal.sortedS (x := tx (wordLt xs)) (by rw [tx_list]; exact h.perm) h.sorted (by rw [tx_size]; omega)) (fun _ => rfl) (fun _ _ => rfl)) Evs.nil (fun _ => rfl)) PySem.F.plainAttrs_str PySem.F.slot_str_join PySem.F.type_str_join (.inl ⟨_, rfl, rfl⟩) jn (fun _ => rfl) (fun _ _ => rfl) (fun _ => ⟨_, rfl⟩)
theorem near_ok (w : World) (S : PV) (xs : List Int) (M : List Nat) (a : Nat) (mid : List Nat) (z : Nat) (h : Words xs M a mid z) :
    Ev (Gd w) 4 fd_law.scope ⟨[("script", S), ("numbers", .list (xs.map PV.int)), ("nothing", nothPV), ("spelling", txPV (wordSp xs)), ("drawn", txPV (wordLt xs)), ("again", txPV M)], none, none⟩ (aAsg1 (st 4)) (txPV (nearOf a mid z)) := by
  have hm := h.mlen
  obtain ⟨e, a1, a2, z1, z2⟩ := h.ends
  subst e
  simp only [List.length_cons, List.length_append, List.length_nil] at hm
  have e : txPV (nearOf a mid z) = .str ((tx [a + 1] ++ tx mid) ++ tx [z - 1]) := by unfold txPV; rw [tx_app, tx_app]; rfl
  rw [e]
  refine Ev.addS (Ev.addS ?_ ?_ (by rw [tx_len, tx_len, List.length_singleton]; omega)) ?_ (by rw [tx_app, tx_len, tx_len]; simp; omega)
  · have e1 : tx [a + 1] = ⟨#[((a : Int) + 1).toNat]⟩ := by
      have : ((a : Int) + 1).toNat = a + 1 := by omega
      rw [this]; rfl
    rw [e1]
    exact Ev.callB rfl (glb_chr w) rfl (Evs.cons (Ev.addI (Ev.callB rfl (glb_ord w) rfl (Evs.cons (Ev.atS (j := 0) (Ev.name rfl rfl rfl rfl) (Ev.int _ _ _) (by decide) (by decide) rfl) Evs.nil (fun _ => rfl)) Cal.ord (fun _ => rfl) (fun _ _ => rfl)) (Ev.int _ _ _)) Evs.nil (fun _ => rfl)) (Cal.chr (by omega) (by omega)) (fun _ => rfl) (fun _ _ => rfl)
  · refine Ev.cut (Ev.name rfl rfl rfl rfl).w (Part.some (Ev.int 1 _ _)) (Part.some (Ev.neg (Ev.int 1 _ _))) ?_
    show (if small (tx (a :: (mid ++ [z]))).length then some (PV.str ⟨(Mine.cut (some 1) (some (-1)) (tx (a :: (mid ++ [z]))).cps.toList).toArray⟩) else none) = _
    rw [if_pos (small_of (by rw [tx_len]; simp; omega)), tx_list, cut_mid]; rfl
  · have e1 : tx [z - 1] = ⟨#[((z : Int) - 1).toNat]⟩ := by
      have : ((z : Int) - 1).toNat = z - 1 := by omega
      rw [this]; rfl
    rw [e1]
    exact Ev.callB rfl (glb_chr w) rfl (Evs.cons (Ev.subI (Ev.callB rfl (glb_ord w) rfl (Evs.cons (Ev.lastS (l := a :: mid) (Ev.name rfl rfl rfl rfl) (Ev.neg (Ev.int 1 _ _))) Evs.nil (fun _ => rfl)) Cal.ord (fun _ => rfl) (fun _ _ => rfl)) (Ev.int _ _ _)) Evs.nil (fun _ => rfl)) (Cal.chr (by omega) (by omega)) (fun _ => rfl) (fun _ _ => rfl)
theorem spellings_ok (w : World) (S : PV) (xs : List Int) (M : List Nat) (a : Nat) (mid : List Nat) (z : Nat) (h : Words xs M a mid z) (hx : 1 ≤ xs.length) (hx2 : xs.length ≤ 5) :
    Ev (Gd w) 4 fd_law.scope (nmS S xs M (nearOf a mid z) []) (aAsg1 (st 5)) (.list ([wordSp xs, spL M (xs.map (· + 6)), spL (nearOf a mid z) (xs.map (· + 12))].map txPV)) := by
  have hm := h.mlen
  have hn := h.nlen
  obtain ⟨n1, q1⟩ := moved_ok w noE (LS (eSpl 1)) 6 (LE (eSpl 1)) (LT (eSpl 1)) ⟨0, 0, 0, 0⟩ xs (fun _ _ => rfl) (fun _ => rfl) (fun x => Ev.addI (Ev.name rfl rfl rfl rfl) (Ev.int _ _ _))
  obtain ⟨n2, q2⟩ := moved_ok w noE (LS (eSpl 2)) 12 (LE (eSpl 2)) (LT (eSpl 2)) ⟨0, 0, 0, 0⟩ xs (fun _ _ => rfl) (fun _ => rfl) (fun x => Ev.addI (Ev.name rfl rfl rfl rfl) (Ev.int _ _ _))
  refine Ev.list (Evs.cons (Ev.name rfl rfl rfl rfl) (Evs.cons ?_ (Evs.cons ?_ Evs.nil (fun _ => rfl)) (fun _ => rfl)) (fun _ => rfl)) rfl
  · exact Ev.callF rfl (glb_spelled w) rfl (at_spelled w.params) rfl (Evs.cons (Ev.name rfl rfl rfl rfl) (Evs.cons (Ev.comp (by decide +kernel) (Src.list (Ev.name rfl rfl rfl rfl)) (fun _ _ => rfl) (LoopOk.one rfl q1 (small_of (by rw [List.length_map, List.length_map]; omega)))) (Evs.cons (Ev.name rfl rfl rfl rfl) Evs.nil (fun _ => rfl)) (fun _ => rfl)) (fun _ => rfl))
      ((spelled_ok w M (xs.map (· + 6)) h.abc (by omega) (by rw [List.length_map]; omega) (by rw [List.length_map]; omega)).le (by decide)) (fun _ => rfl)
  · exact Ev.callF rfl (glb_spelled w) rfl (at_spelled w.params) rfl (Evs.cons (Ev.name rfl rfl rfl rfl) (Evs.cons (Ev.comp (by decide +kernel) (Src.list (Ev.name rfl rfl rfl rfl)) (fun _ _ => rfl) (LoopOk.one rfl q2 (small_of (by rw [List.length_map, List.length_map]; omega)))) (Evs.cons (Ev.name rfl rfl rfl rfl) Evs.nil (fun _ => rfl)) (fun _ => rfl)) (fun _ => rfl))
      ((spelled_ok w (nearOf a mid z) (xs.map (· + 12)) h.nabc (by omega) (by rw [List.length_map]; omega) (by rw [List.length_map]; omega)).le (by decide)) (fun _ => rfl)
end
end L02

end
noncomputable section
open PySem PySem.W PyProof.Rows PySem.Calls Mine
set_option Elab.async false
set_option linter.unusedVariables false
set_option maxRecDepth 100000
namespace L02
noncomputable section
/-! the law -/
def spells (xs : List Int) (M nr : List Nat) : List (List Nat) := [wordSp xs, spL M (xs.map (· + 6)), spL nr (xs.map (· + 12))]
def fnds (xs : List Int) (M nr : List Nat) : List (List Nat × Nat) := [(wordLt xs, takenN (wordSp xs)), (M, takenN (spL M (xs.map (· + 6)))), (nr, takenN (spL nr (xs.map (· + 12))))]
def indsOf (l : List (List Nat × Nat)) : List PV := l.map fun p => inPV p.1 p.2
def plcsOf (l : List (List Nat × Nat)) : List PV := l.map fun p => .list (nats (placesOf p.1))
def behsOf (l : List (List Nat × Nat)) : List PV := l.map fun p => .int (p.2 : Nat)
section
variable {xs : List Int} {M : List Nat} {a : Nat} {mid : List Nat} {z : Nat}
theorem spells_len (h : Words xs M a mid z) (hx : xs.length ≤ 5) : ∀ l ∈ spells xs M (nearOf a mid z), l.length ≤ 30 := fun l hl => by
  have h1 := wordSp_len xs
  have h2 := spL_len M (xs.map (· + 6))
  have h3 := spL_len (nearOf a mid z) (xs.map (· + 12))
  have hm := h.mlen
  have hn := h.nlen
  simp only [spells, List.mem_cons, List.not_mem_nil, or_false] at hl
  rcases hl with rfl | rfl | rfl <;> omega
theorem spells_fine (h : Words xs M a mid z) : ∀ l ∈ spells xs M (nearOf a mid z), FineL l := fun l hl => by
  simp only [spells, List.mem_cons, List.not_mem_nil, or_false] at hl
  rcases hl with rfl | rfl | rfl
  · exact fine_wordSp _
  · exact fine_spL _ _ h.abc
  · exact fine_spL _ _ h.nabc
theorem spells_fnds (h : Words xs M a mid z) : (spells xs M (nearOf a mid z)).map (fun l => fndPV (prepL l, takenN l)) = (fnds xs M (nearOf a mid z)).map fndPV := by
  show [fndPV (prepL (wordSp xs), _), fndPV (prepL (spL M (xs.map (· + 6))), _), fndPV (prepL (spL (nearOf a mid z) (xs.map (· + 12))), _)] = _
  rw [prep_wordSp, prep_spL _ _ h.abc, prep_spL _ _ h.nabc]; rfl
structure FndOk (p : List Nat × Nat) : Prop where
  ne : p.1 ≠ []
  len : p.1.length ≤ 20
  abc : ∀ c ∈ p.1, 97 ≤ c ∧ c ≤ 122
  b : p.2 ≤ 100
theorem fnds_ok (h : Words xs M a mid z) (hx : xs.length ≤ 5) : ∀ p ∈ fnds xs M (nearOf a mid z), FndOk p := fun p hp => by
  have hs := spells_len h hx
  have hm := h.mlen
  have hn := h.nlen
  have hl := h.len
  have hne : M ≠ [] := by rw [h.ends.eq]; simp
  have t1 := taken_le (wordSp xs)
  have t2 := taken_le (spL M (xs.map (· + 6)))
  have t3 := taken_le (spL (nearOf a mid z) (xs.map (· + 12)))
  have s1 := hs _ (List.mem_cons_self ..)
  have s2 := hs _ (List.mem_cons_of_mem _ (List.mem_cons_self ..))
  have s3 := hs _ (List.mem_cons_of_mem _ (List.mem_cons_of_mem _ (List.mem_cons_self ..)))
  simp only [fnds, List.mem_cons, List.not_mem_nil, or_false] at hp
  rcases hp with rfl | rfl | rfl
  · refine ⟨fun e => hne ?_, by show (wordLt xs).length ≤ 20; omega, wordLt_abc xs, by show takenN (wordSp xs) ≤ 100; omega⟩
    have := h.perm
    rw [show wordLt xs = [] from e] at this
    exact this.eq_nil
  · exact ⟨hne, by show M.length ≤ 20; omega, h.abc, by show takenN (spL M (xs.map (· + 6))) ≤ 100; omega⟩
  · exact ⟨by simp [nearOf], by show (nearOf a mid z).length ≤ 20; omega, h.nabc, by show takenN (spL (nearOf a mid z) (xs.map (· + 12))) ≤ 100; omega⟩
end
theorem got3 {l : List (List Nat × Nat)} {i : Int} {p : List Nat × Nat} (h : FndOk p) (h1 : itemPV (.list (indsOf l)) i = some (inPV p.1 p.2)) (h2 : itemPV (.list (plcsOf l)) i = some (.list (nats (placesOf p.1)))) (h3 : itemPV (.list (behsOf l)) i = some (.int (p.2 : Nat))) : Got3 (indsOf l) (plcsOf l) (behsOf l) i p.1 p.2 :=
  ⟨h1, h2, h3, h.ne, h.len, h.abc, h.b⟩
theorem law_ok (w : World) (ns : List Int) (hz : ns.length ≤ 63) : Cal (Gd w) 5 (.ref ad_law) [.list (ns.map PV.int)] (.bool true) := by
  refine Cal.fn (k := 4) (fn_law w) rfl ?_
  obtain ⟨M, a, mid, z, h⟩ := words_of ns
  obtain ⟨hx1, hx2⟩ := nums_len ns
  generalize hS : PV.list (ns.map PV.int) = S
  have hm := h.mlen
  have hn := h.nlen
  refine Ex.cons (n₁ := ⟨[("script", S), ("numbers", .list ((nums ns).map PV.int))], none, none⟩) (Ex1.assign (d := .list ((nums ns).map PV.int)) ?_ rfl (fun _ => rfl)) ?_
  · have part : ∀ (a b : Int) (lo hi : Option Int), ([a, b].map PV.int) ++ Mine.cut lo hi (ns.map PV.int) = ([a, b] ++ Mine.cut lo hi ns).map PV.int := fun a b lo hi => by rw [cut_map, List.map_append]
    have hsm : (ns.map PV.int).length ≤ 4096 := by rw [List.length_map]; omega
    subst hS
    unfold nums
    rw [← part]
    exact Ev.addL (Ev.list (Evs.cons (Ev.int _ _ _) (Evs.cons (Ev.int _ _ _) Evs.nil (fun _ => rfl)) (fun _ => rfl)) rfl) (Ev.cut (Ev.name rfl rfl rfl rfl).w Part.none (Part.some (Ev.int _ _ _)) (by show (if _ then _ else _) = _; rw [if_pos (small_of hsm)])) (by rw [cut_map]; have := cut3_len ns; simp; omega)
  clear hS
  generalize nums ns = xs at h hx1 hx2 ⊢
  have hl := h.len
  refine Ex.cons (n₁ := ⟨[("script", S), ("numbers", .list (xs.map PV.int)), ("nothing", nothPV)], none, none⟩) (Ex1.assign (d := nothPV) (Ev.callF0 rfl (glb_nothing w) rfl (at_nothing w.params) rfl ((nothing_ok w).le (by decide))) rfl (fun _ => rfl)) ?_
  refine Ex.cons (n₁ := ⟨[("script", S), ("numbers", .list (xs.map PV.int)), ("nothing", nothPV), ("spelling", txPV (wordSp xs)), ("drawn", txPV (wordLt xs))], none, none⟩) (Ex1.assignT (d := .tup [txPV (wordSp xs), txPV (wordLt xs)]) (Ev.callF rfl (glb_word w) rfl (at_word w.params) rfl (Evs.cons (Ev.name rfl rfl rfl rfl) (Evs.cons (Ev.name rfl rfl rfl rfl) Evs.nil (fun _ => rfl)) (fun _ => rfl)) ((word_ok w xs (by omega)).le (by decide)) (fun _ => rfl)) rfl (fun _ => rfl) (fun _ => rfl) (fun _ => rfl)) ?_
  refine Ex.cons (n₁ := ⟨[("script", S), ("numbers", .list (xs.map PV.int)), ("nothing", nothPV), ("spelling", txPV (wordSp xs)), ("drawn", txPV (wordLt xs)), ("again", txPV M)], none, none⟩) (Ex1.assign (again_ok w S xs M a mid z h) rfl (fun _ => rfl)) ?_
  refine Ex.cons (n₁ := nmS S xs M (nearOf a mid z) []) (Ex1.assign (near_ok w S xs M a mid z h) rfl (fun _ => rfl)) ?_
  refine Ex.cons (n₁ := nmS S xs M (nearOf a mid z) [("spellings", .list ((spells xs M (nearOf a mid z)).map txPV))]) (Ex1.assign (spellings_ok w S xs M a mid z h hx1 hx2) rfl (fun _ => rfl)) ?_
  have F := fnds_ok h hx2
  have sf := spells_fine h
  have sl := spells_len h hx2
  have sp := spells_fnds h
  -- found
  obtain ⟨n6, q6⟩ := Cp1.mapT (P := Gd w) (k := 4) (sc := relab (LS eFnd) fd_law.scope) (n₀ := ⟨[], none, none⟩) (elt := LE eFnd) (t := LT eFnd) txPV (fun l => ⟨[("one", txPV l)], none, none⟩) (fun l => fndPV (prepL l, takenN l)) (ds := spells xs M (nearOf a mid z)) (fun _ => rfl) (fun _ _ => rfl)
    (fun l hl => Ev.callF rfl (glb_prepared w) rfl (at_prepared w.params) rfl (Evs.cons (Ev.name rfl rfl rfl rfl) Evs.nil (fun _ => rfl)) ((prepared_ok w l (by have := sl l hl; omega) (fun c hc => (sf l hl c hc).1) (fun c hc => by
      obtain ⟨c1, c2⟩ := List.mem_filter.mp hc
      exact (sf l hl c c1).2 (by simpa using c2))).le (by decide)) (fun _ => rfl))
  rw [sp] at q6
  generalize hfl : fnds xs M (nearOf a mid z) = fl at q6 F
  have f0 : fl = [(wordLt xs, takenN (wordSp xs)), (M, takenN (spL M (xs.map (· + 6)))), (nearOf a mid z, takenN (spL (nearOf a mid z) (xs.map (· + 12))))] := hfl.symm
  have fz : fl.length = 3 := by rw [f0]; rfl
  refine Ex.cons (n₁ := nmS S xs M (nearOf a mid z) [("spellings", .list ((spells xs M (nearOf a mid z)).map txPV)), ("found", .list (fl.map fndPV))]) (Ex1.assignComp (by decide +kernel) (Src.list (Ev.name rfl rfl rfl rfl)) (fun _ _ => rfl) (LoopOk.one rfl q6 (small_of (by rw [List.length_map]; omega))) rfl (fun env he => by
      obtain ⟨scope, l, g, cells, q, f, c, fr, bn⟩ := env
      subst he
      rfl)) ?_
  -- the words are found again
  obtain ⟨n7, q7⟩ := Cp1.mapT (P := Gd w) (k := 4) (sc := relab (LS eWrd) fd_law.scope) (n₀ := ⟨[], none, none⟩) (elt := LE eWrd) (t := LT eWrd) fndPV (fun p => ⟨[("word", txPV p.1), ("taken", .int (p.2 : Nat))], none, none⟩) (fun p => txPV p.1) (ds := fl) (fun _ => rfl) (fun _ _ => rfl) (fun p _ => Ev.name rfl rfl rfl rfl)
  have ne7 : cmpPV .NotEq (.list (fl.map fun p => txPV p.1)) (.list [txPV (wordLt xs), txPV M, txPV (nearOf a mid z)]) = some false := by
    rw [f0]
    refine ne_strs [wordLt xs, M, nearOf a mid z] fun x hx c hc => ?_
    have lt : c ≤ 122 := by
      simp only [List.mem_cons, List.not_mem_nil, or_false] at hx
      rcases hx with rfl | rfl | rfl
      · exact (wordLt_abc xs c hc).2
      · exact (h.abc c hc).2
      · exact (h.nabc c hc).2
    omega
  refine Ex.cons (Ex1.ifF (Tv.cmp (Ev.comp (by decide +kernel) (Src.list (Ev.name rfl rfl rfl rfl)) (fun _ _ => rfl) (LoopOk.one rfl q7 (small_of (by rw [List.length_map]; omega)))) (Ev.list (Evs.cons (Ev.name rfl rfl rfl rfl) (Evs.cons (Ev.name rfl rfl rfl rfl) (Evs.cons (Ev.name rfl rfl rfl rfl) Evs.nil (fun _ => rfl)) (fun _ => rfl)) (fun _ => rfl)) rfl) ne7 rfl) Ex.nil) ?_
  -- the indents
  obtain ⟨n8, q8⟩ := Cp1.mapT (P := Gd w) (k := 4) (sc := scInd) (n₀ := ⟨[], none, none⟩) (elt := LE eInd) (t := LT eInd) fndPV (fun p => ⟨[("word", txPV p.1), ("taken", .int (p.2 : Nat))], none, none⟩) (fun p => inPV p.1 p.2) (ds := fl) (fun _ => rfl) (fun _ _ => rfl) (fun p hp => ind_ev w p.1 p.2 (F p hp).abc (F p hp).len (F p hp).b)
  refine Ex.cons (n₁ := nmS S xs M (nearOf a mid z) [("spellings", .list ((spells xs M (nearOf a mid z)).map txPV)), ("found", .list (fl.map fndPV)), ("indents", .list (indsOf fl))]) (Ex1.assignComp (by decide +kernel) (Src.list (Ev.name rfl rfl rfl rfl)) (fun _ _ => rfl) (LoopOk.one rfl q8 (small_of (by unfold indsOf; rw [List.length_map]; omega))) rfl (fun env he => by
      obtain ⟨scope, l, g, cells, q, f, c, fr, bn⟩ := env
      subst he
      rfl)) ?_
  -- the places
  obtain ⟨n9, q9⟩ := Cp1.mapT (P := Gd w) (k := 4) (sc := scPlc) (n₀ := ⟨[], none, none⟩) (elt := LE ePlc) (t := LT ePlc) (fun p : List Nat × Nat => txPV p.1) (fun p => ⟨[("word", txPV p.1)], none, none⟩) (fun p => .list (nats (placesOf p.1))) (ds := fl) (fun _ => rfl) (fun _ _ => rfl) (fun p hp => plc_ev w p.1 (F p hp).abc (F p hp).len)
  have e9 : fl.map (fun p => txPV p.1) = [txPV (wordLt xs), txPV M, txPV (nearOf a mid z)] := by rw [f0]; rfl
  rw [e9] at q9
  refine Ex.cons (n₁ := nmS S xs M (nearOf a mid z) [("spellings", .list ((spells xs M (nearOf a mid z)).map txPV)), ("found", .list (fl.map fndPV)), ("indents", .list (indsOf fl)), ("places", .list (plcsOf fl))]) (Ex1.assignC (d := .list (plcsOf fl)) (Ev.comp (by decide +kernel) (Src.list (Ev.list (Evs.cons (Ev.name rfl rfl rfl rfl) (Evs.cons (Ev.name rfl rfl rfl rfl) (Evs.cons (Ev.name rfl rfl rfl rfl) Evs.nil (fun _ => rfl)) (fun _ => rfl)) (fun _ => rfl)) rfl)) (fun _ _ => rfl) (LoopOk.one rfl q9 (small_of (by unfold plcsOf; rw [List.length_map]; omega)))) rfl (fun env he => by
      obtain ⟨scope, l, g, cells, q, f, c, fr, bn⟩ := env
      subst he
      rfl)) ?_
  -- how many were taken out
  obtain ⟨n10, q10⟩ := Cp1.mapT (P := Gd w) (k := 4) (sc := scBeh) (n₀ := ⟨[("nothing", nothPV)], none, none⟩) (elt := LE eBeh) (t := LT eBeh) txPV (fun l => ⟨[("nothing", nothPV), ("one", txPV l)], none, none⟩) (fun l => .int (takenN l : Nat)) (ds := spells xs M (nearOf a mid z)) (fun _ => rfl) (fun _ _ => rfl) (fun l hl => beh_ev w l (by have := sl l hl; omega))
  have e10 : (spells xs M (nearOf a mid z)).map (fun l => PV.int (takenN l : Nat)) = behsOf fl := by rw [f0]; rfl
  rw [e10] at q10
  refine Ex.cons (n₁ := nmS S xs M (nearOf a mid z) [("spellings", .list ((spells xs M (nearOf a mid z)).map txPV)), ("found", .list (fl.map fndPV)), ("indents", .list (indsOf fl)), ("places", .list (plcsOf fl)), ("behind", .list (behsOf fl))]) (Ex1.assignC (d := .list (behsOf fl)) (Ev.comp (by decide +kernel) (Src.list (Ev.name rfl rfl rfl rfl)) (fun _ _ => rfl) (LoopOk.one rfl q10 (small_of (by unfold behsOf; rw [List.length_map]; omega)))) rfl (fun env he => by
      obtain ⟨scope, l, g, cells, q, f, c, fr, bn⟩ := env
      subst he
      rfl)) ?_
  -- the three turns
  have p0 : FndOk (wordLt xs, takenN (wordSp xs)) := F _ (by rw [f0]; exact .head _)
  have p1 : FndOk (M, takenN (spL M (xs.map (· + 6)))) := F _ (by rw [f0]; exact .tail _ (.head _))
  have p2 : FndOk (nearOf a mid z, takenN (spL (nearOf a mid z) (xs.map (· + 12)))) := F _ (by rw [f0]; exact .tail _ (.tail _ (.head _)))
  have G0 : Got3 (indsOf fl) (plcsOf fl) (behsOf fl) 0 (wordLt xs) (takenN (wordSp xs)) := got3 p0 (by rw [f0]; rfl) (by rw [f0]; rfl) (by rw [f0]; rfl)
  have G1 : Got3 (indsOf fl) (plcsOf fl) (behsOf fl) 1 M (takenN (spL M (xs.map (· + 6)))) := got3 p1 (by rw [f0]; rfl) (by rw [f0]; rfl) (by rw [f0]; rfl)
  have G2 : Got3 (indsOf fl) (plcsOf fl) (behsOf fl) 2 (nearOf a mid z) (takenN (spL (nearOf a mid z) (xs.map (· + 12)))) := got3 p2 (by rw [f0]; rfl) (by rw [f0]; rfl) (by rw [f0]; rfl)
  have Gm : Got3 (indsOf fl) (plcsOf fl) (behsOf fl) (-1) (nearOf a mid z) (takenN (spL (nearOf a mid z) (xs.map (· + 12)))) := got3 p2 (by rw [f0]; rfl) (by rw [f0]; rfl) (by rw [f0]; rfl)
  clear q6 q7 q8 q9 q10 e9 e10 ne7 sp f0 hfl F fz p0 p1 p2
  generalize (indsOf fl) = I at G0 G1 G2 Gm ⊢
  generalize (plcsOf fl) = Pl at G0 G1 G2 Gm ⊢
  generalize (behsOf fl) = Be at G0 G1 G2 Gm ⊢
  generalize PV.list (fl.map fndPV) = fo
  generalize PV.list ((spells xs M (nearOf a mid z)).map txPV) = ss
  obtain ⟨c0, a0, t0⟩ := turnK_ok w S (.list (xs.map PV.int)) (txPV (wordSp xs)) (txPV (wordLt xs)) (txPV M) (txPV (nearOf a mid z)) ss fo I Pl Be 0 (by decide) _ _ _ _ G0 Gm _ (.inl rfl)
  obtain ⟨c1, a1, t1⟩ := turnK_ok w S (.list (xs.map PV.int)) (txPV (wordSp xs)) (txPV (wordLt xs)) (txPV M) (txPV (nearOf a mid z)) ss fo I Pl Be 1 (by decide) _ _ _ _ G1 G0 _ (.inr ⟨c0, a0, rfl⟩)
  obtain ⟨c2, a2, t2⟩ := turnK_ok w S (.list (xs.map PV.int)) (txPV (wordSp xs)) (txPV (wordLt xs)) (txPV M) (txPV (nearOf a mid z)) ss fo I Pl Be 2 (by decide) _ _ _ _ G2 G1 _ (.inr ⟨c1, a1, rfl⟩)
  have src : Src (Gd w) 4 fd_law.scope (nmZ S (.list (xs.map PV.int)) (txPV (wordSp xs)) (txPV (wordLt xs)) (txPV M) (txPV (nearOf a mid z)) ss fo I Pl Be []) (aFor1 (st 11)) [.int (0 : Nat), .int (1 : Nat), .int (2 : Nat)] :=
    Src.range1 rfl (glb_range w) rfl (Evs.cons (Ev.int _ _ _) Evs.nil (fun _ => rfl)) rfl (fun _ => rfl)
  refine Ex.cons (n₁ := nmZ S (.list (xs.map PV.int)) (txPV (wordSp xs)) (txPV (wordLt xs)) (txPV M) (txPV (nearOf a mid z)) ss fo I Pl Be [("k", .int (2 : Nat)), ("counts", c2), ("answer", a2)]) (Ex1.for src (.cons rfl t0 (.cons rfl t1 (.cons rfl t2 .nil))) (fun _ _ => rfl)) ?_
  -- which comes first
  have hr := fmod_range (((wordLt xs).length : Int) + 1) (k := 2) (by decide)
  have here : ∀ n : Nm, n.ρ.lookup ("drawn" : Str) = some (txPV (wordLt xs)) → Ev (Gd w) 4 fd_law.scope n (aAsg1 (st 12)) (.int (1 + (((wordLt xs).length : Int) + 1).fmod 2)) := fun n q => by
    rw [show (((wordLt xs).length : Nat) : Int) = (((tx (wordLt xs)).length : Nat) : Int) by rw [tx_len]]
    exact Ev.addI (Ev.int _ _ _) (Ev.modI (Ev.addI (Ev.callB rfl (glb_len w) rfl (Evs.cons (Ev.name rfl q rfl rfl) Evs.nil (fun _ => rfl)) (Cal.lenS (small_of (by rw [tx_len]; omega))) (fun _ => rfl) (fun _ _ => rfl)) (Ev.int _ _ _)) (Ev.int _ _ _) (by decide))
  have two : (((wordLt xs).length : Int) + 1).fmod 2 = 0 ∨ (((wordLt xs).length : Int) + 1).fmod 2 = 1 := by omega
  rcases two with e | e
  · rw [e] at here
    exact end_ok w S (.list (xs.map PV.int)) (txPV (wordSp xs)) (txPV (wordLt xs)) (txPV M) (txPV (nearOf a mid z)) ss fo I Pl Be c2 a2 1 2 _ _ _ _ _ _ _ _ G1 G2 G1 G2 rfl here rfl
  · rw [e] at here
    exact end_ok w S (.list (xs.map PV.int)) (txPV (wordSp xs)) (txPV (wordLt xs)) (txPV M) (txPV (nearOf a mid z)) ss fo I Pl Be c2 a2 2 1 _ _ _ _ _ _ _ _ G2 G1 G1 G2 (most_comm _ _ _ _) here rfl
theorem intVals_are : ∀ (t : Nat) (ns : List Int), IntsAre (intVals t ns) ns
  | _, [] => .nil
  | t, n :: ns => .cons n t (intVals_are (t + 1) ns)
theorem call_ok (w : World) (os : OsState) : CallOk pw w (.ref 195) (SF w.params os).abs := ⟨fun ns hlen hlay => by
  refine (law_ok w ns hlen).go (A := callerA) (X := fun _ => False) (s := scriptState (SF w.params os).abs ns) (vs := [.ref (SF w.params os).abs.heap.objs.size]) ⟨by decide, by decide, rfl⟩ (fun b o e => Heap.get?_push_of_some _ e) (fun b hb => hb.elim) ?_ fun v s' g r => ?_
  · refine .cons (.list (fun h => h) ⟨_, Heap.get?_push_size _ rfl⟩ ?_) .nil
    simpa using intsRep (intVals_are _ ns)
  · cases r
    exact ⟨rfl, g.heap, g.os, g.gens⟩⟩
theorem holds : PySem.Challenge.rw_nb0274_02.Holds := holds_of call_ok
end
end L02

end
set_option maxRecDepth 100000 in
theorem PySem.Challenge.cw_nb0274_02_holds : PySem.Challenge.rw_nb0274_02.Holds :=
  L02.holds
