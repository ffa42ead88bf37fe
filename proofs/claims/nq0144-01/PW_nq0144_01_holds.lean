import PyProof.Rows.All
import Wide.All
import OpenK.AllK
import Wide.FinOn
import Open.Tops
import PySem.Challenge.RW_nq0144_01
-- part H1
open PySem PySem.W PyProof.Rows
set_option Elab.async false
set_option maxRecDepth 100000
namespace Mine

theorem wrap_id {α : Type} (m : Sem α) : m.wrap .pure .raise id id = m := by
  induction m <;> simp only [Sem.wrap, id, *]

section
variable {tb : String → Option Builtin} {p : Program} {w : World} {n₀ : Nat} {ann : Option Value} {b : Nat}

theorem segGo_step {n : Nat} {s s' : Shared} {t t' : Thread} (he : endAt b t = none) (hk : stepOk n₀ ann t = true) (hs : step (denote tb) p w s t = .go s' t') :
    segGo tb p w n₀ ann b (n + 1) s t = segGo tb p w n₀ ann b n s' t' := by
  rw [segGo, he, hk, hs]

theorem segGo_add {n m : Nat} {s s' : Shared} {t t' : Thread} (h : segGo tb p w n₀ ann b n s t = some (s', t')) :
    segGo tb p w n₀ ann b (n + m) s t = segGo tb p w n₀ ann b m s' t' := by
  induction n generalizing s t with
  | zero =>
    obtain ⟨rfl, rfl⟩ : s = s' ∧ t = t' := by simpa [segGo] using h
    rw [Nat.zero_add]
  | succ n ih =>
    rw [show n + 1 + m = n + m + 1 by omega]
    unfold segGo at h
    cases he : endAt b t with
    | some f => rw [he] at h; cases h
    | none =>
      rw [he] at h
      cases hk : stepOk n₀ ann t with
      | false => rw [hk] at h; cases h
      | true =>
        rw [hk] at h
        cases hs : step (denote tb) p w s t with
        | halt o s₂ => rw [hs] at h; cases h
        | go s₂ t₂ => rw [hs] at h; rw [segGo_step he hk hs]; exact ih h

/-- a tree runs to its end -/
def Ev (tb : String → Option Builtin) (p : Program) (w : World) (n₀ : Nat) (ann : Option Value) (b : Nat) {α : Type} (N : Nat) (code : Code) (below : List (Code × Pos)) (m : Sem α) (pos : Pos) (s : Shared) (a : α) (pos' : Pos) (s' : Shared) : Prop :=
  ∀ (K : α → Sem Fin) (H : Value → Sem Fin) (gd : Bool → Bool) (lv : List Value → List Value) (st : List Frame), st.map Frame.where_ = below → b ≤ st.length →
    ∃ n, n ≤ N ∧ segGo tb p w n₀ ann b n s ⟨m.wrap K H gd lv, code, pos, st⟩ = some (s', ⟨K a, code, pos', st⟩)

/-- a code runs to its end -/
def EvC (tb : String → Option Builtin) (p : Program) (w : World) (n₀ : Nat) (ann : Option Value) (b : Nat) (N : Nat) (c : Code) (below : List (Code × Pos)) (pos : Pos) (s : Shared) (f : Flow) (s' : Shared) : Prop :=
  ∀ (k : Result → Sem Fin) (hd : Option Value) (g : Bool) (l : List Value) (cd : Code) (q : Pos) (kept : List Value) (st : List Frame), (cd, q) :: st.map Frame.where_ = below → b ≤ st.length →
    ∃ n, n ≤ N ∧ segGo tb p w n₀ ann b n s ⟨denote tb c, c, pos, .ret k hd g l cd q kept :: st⟩ = some (s', ⟨k (.ok f), cd, q, st⟩)

variable {α β : Type} {N N₁ N₂ : Nat} {code : Code} {below : List (Code × Pos)} {pos pos₁ pos₂ : Pos} {s s₁ s₂ : Shared}

theorem Ev.pure {a : α} : Ev tb p w n₀ ann b 0 code below (.pure a) pos s a pos s := fun _ _ _ _ _ _ _ => ⟨0, Nat.le_refl _, rfl⟩
theorem Ev.mono {m : Sem α} {a : α} (h : Ev tb p w n₀ ann b N₁ code below m pos s a pos₁ s₁) (hN : N₁ ≤ N₂) : Ev tb p w n₀ ann b N₂ code below m pos s a pos₁ s₁ := fun K H gd lv st h1 h2 =>
  let ⟨n, hn, e⟩ := h K H gd lv st h1 h2; ⟨n, Nat.le_trans hn hN, e⟩
theorem EvC.mono {c : Code} {f : Flow} (h : EvC tb p w n₀ ann b N₁ c below pos s f s₁) (hN : N₁ ≤ N₂) : EvC tb p w n₀ ann b N₂ c below pos s f s₁ := fun k hd g l cd q kept st h1 h2 =>
  let ⟨n, hn, e⟩ := h k hd g l cd q kept st h1 h2; ⟨n, Nat.le_trans hn hN, e⟩

theorem endAt_rule {l : Nat} {t : Thread} (h : ∀ f, t.cur ≠ .pure (.done f)) : endAt l t = none := by
  unfold endAt
  split
  · rename_i e; exact absurd e (h _)
  · rfl
theorem endAt_deep {l : Nat} {t : Thread} (h : t.stack.length ≠ l) : endAt l t = none := by
  unfold endAt
  rw [show (t.stack.length == l) = false from beq_eq_false_iff_ne.mpr h]

theorem Ev.one {m m' : Sem α} {a : α} (hne : ∀ (K : α → Sem Fin) H gd lv f, m.wrap K H gd lv ≠ .pure (.done f))
    (hok : ∀ (K : α → Sem Fin) H gd lv st, stepOk n₀ ann ⟨m.wrap K H gd lv, code, pos, st⟩ = true)
    (hs : ∀ (K : α → Sem Fin) H gd lv st, st.map Frame.where_ = below → step (denote tb) p w s ⟨m.wrap K H gd lv, code, pos, st⟩ = .go s₁ ⟨m'.wrap K H gd lv, code, pos₁, st⟩)
    (h : Ev tb p w n₀ ann b N code below m' pos₁ s₁ a pos₂ s₂) : Ev tb p w n₀ ann b (N + 1) code below m pos s a pos₂ s₂ := fun K H gd lv st h1 h2 =>
  let ⟨n, hn, e⟩ := h K H gd lv st h1 h2
  ⟨n + 1, Nat.add_le_add_right hn 1, (segGo_step (endAt_rule (hne K H gd lv)) (hok K H gd lv st) (hs K H gd lv st h1)).trans e⟩

theorem Ev.rule {tag : String} {k : Unit → Sem α} {a : α} (h : Ev tb p w n₀ ann b N code below (k ()) pos s a pos₂ s₂) : Ev tb p w n₀ ann b (N + 1) code below (.rule tag k) pos s a pos₂ s₂ :=
  Ev.one (fun _ _ _ _ _ e => nomatch e) (fun _ _ _ _ _ => rfl) (fun _ _ _ _ _ _ => rfl) h
theorem Ev.at {q : Pos} {k : Unit → Sem α} {a : α} (h : Ev tb p w n₀ ann b N code below (k ()) q s a pos₂ s₂) : Ev tb p w n₀ ann b (N + 1) code below (.at q k) pos s a pos₂ s₂ :=
  Ev.one (fun _ _ _ _ _ e => nomatch e) (fun _ _ _ _ _ => rfl) (fun _ _ _ _ _ _ => rfl) h
theorem Ev.point {l : List Value} {k : Unit → Sem α} {a : α} (h : Ev tb p w n₀ ann b N code below (k ()) pos s a pos₂ s₂) : Ev tb p w n₀ ann b (N + 1) code below (.point l k) pos s a pos₂ s₂ :=
  Ev.one (fun _ _ _ _ _ e => nomatch e) (fun _ _ _ _ _ => rfl) (fun _ _ _ _ _ _ => rfl) h
theorem Ev.ask {k : Setting → Sem α} {a : α} (h : Ev tb p w n₀ ann b N code below (k ⟨p, w.params⟩) pos s a pos₂ s₂) : Ev tb p w n₀ ann b (N + 1) code below (.ask k) pos s a pos₂ s₂ :=
  Ev.one (fun _ _ _ _ _ e => nomatch e) (fun _ _ _ _ _ => rfl) (fun _ _ _ _ _ _ => rfl) h
theorem Ev.fresh {k : Tok → Sem α} {a : α} (h : Ev tb p w n₀ ann b N code below (k s.toks) pos { s with toks := s.toks + 1 } a pos₂ s₂) : Ev tb p w n₀ ann b (N + 1) code below (.fresh k) pos s a pos₂ s₂ :=
  Ev.one (fun _ _ _ _ _ e => nomatch e) (fun _ _ _ _ _ => rfl) (fun _ _ _ _ _ _ => rfl) h
theorem Ev.load {x : Addr} {part : Option Value} {o : Obj} {k : Obj → Sem α} {a : α} (ho : s.heap.get? x = some o) (h : Ev tb p w n₀ ann b N code below (k o) pos s a pos₂ s₂) : Ev tb p w n₀ ann b (N + 1) code below (.load x part k) pos s a pos₂ s₂ :=
  Ev.one (fun _ _ _ _ _ e => nomatch e) (fun _ _ _ _ _ => rfl) (fun K H gd lv st _ => by
    obtain ⟨heap, gens, drawn, toks, os⟩ := s
    dsimp only at ho
    simp only [Sem.wrap, step, ho]) h
theorem Ev.alloc {o : Obj} {k : Addr → Sem α} {a : α} (h : Ev tb p w n₀ ann b N code below (k s.heap.objs.size) pos { s with heap := s.heap.push o } a pos₂ s₂) : Ev tb p w n₀ ann b (N + 1) code below (.alloc o k) pos s a pos₂ s₂ :=
  Ev.one (fun _ _ _ _ _ e => nomatch e) (fun _ _ _ _ _ => rfl) (fun _ _ _ _ _ _ => rfl) h
theorem Ev.update {x : Addr} {part : Option Value} {f : Obj → Obj} {k : Unit → Sem α} {a : α} (hx : n₀ ≤ x ∨ x = mainNs) (ho : (s.heap.get? x).isSome = true)
    (h : Ev tb p w n₀ ann b N code below (k ()) pos { s with heap := s.heap.update x f } a pos₂ s₂) : Ev tb p w n₀ ann b (N + 1) code below (.update x part f k) pos s a pos₂ s₂ :=
  Ev.one (fun _ _ _ _ _ e => nomatch e) (fun K H gd lv st => by
    show (true && (Nat.ble n₀ x || x == mainNs || x == cStatics || ann == some (.ref x))) = true
    rcases hx with hx | hx
    · rw [Nat.ble_eq.mpr hx]; rfl
    · subst hx; simp) (fun K H gd lv st _ => by
    obtain ⟨heap, gens, drawn, toks, os⟩ := s
    dsimp only at ho
    simp only [Sem.wrap, step, ho]; rfl) h
theorem Ev.stack {k : List (Code × Pos) → Sem α} {a : α} (h : Ev tb p w n₀ ann b N code below (k ((code, pos) :: below)) pos s a pos₂ s₂) : Ev tb p w n₀ ann b (N + 1) code below (.stack k) pos s a pos₂ s₂ :=
  Ev.one (fun _ _ _ _ _ e => nomatch e) (fun _ _ _ _ _ => rfl) (fun K H gd lv st e => by subst e; rfl) h

theorem Ev.wrap {m : Sem α} {a : α} {c : β} {F : α → Sem β} {G : Value → Sem β} {gd : Bool → Bool} {lv : List Value → List Value} (h₁ : Ev tb p w n₀ ann b N₁ code below m pos s a pos₁ s₁)
    (h₂ : Ev tb p w n₀ ann b N₂ code below (F a) pos₁ s₁ c pos₂ s₂) : Ev tb p w n₀ ann b (N₁ + N₂) code below (m.wrap F G gd lv) pos s c pos₂ s₂ := fun K H gd' lv' st hb hl => by
  rw [Sem.wrap_wrap]
  obtain ⟨n₁, l₁, e₁⟩ := h₁ (fun a => (F a).wrap K H gd' lv') (fun e => (G e).wrap K H gd' lv') (fun g => gd' (gd g)) (fun l => lv' (lv l)) st hb hl
  obtain ⟨n₂, l₂, e₂⟩ := h₂ K H gd' lv' st hb hl
  exact ⟨n₁ + n₂, Nat.add_le_add l₁ l₂, (segGo_add e₁).trans e₂⟩
theorem Ev.bind {m : Sem α} {a : α} {c : β} {F : α → Sem β} (h₁ : Ev tb p w n₀ ann b N₁ code below m pos s a pos₁ s₁)
    (h₂ : Ev tb p w n₀ ann b N₂ code below (F a) pos₁ s₁ c pos₂ s₂) : Ev tb p w n₀ ann b (N₁ + N₂) code below (m >>= F) pos s c pos₂ s₂ := by
  rw [Sem.bind_eq_wrap']; exact Ev.wrap h₁ h₂
theorem Ev.keep {m : Sem α} {a : α} {vs : List Value} (h : Ev tb p w n₀ ann b N code below m pos s a pos₁ s₁) : Ev tb p w n₀ ann b N code below (m.keep vs) pos s a pos₁ s₁ := by
  rw [Sem.keep_eq_wrap]; exact Ev.wrap (N₂ := 0) h .pure
theorem Ev.holding {m : Sem α} {a : α} {vs : List Value} (h : Ev tb p w n₀ ann b N code below m pos s a pos₁ s₁) : Ev tb p w n₀ ann b N code below (holding vs m) pos s a pos₁ s₁ := by
  unfold PySem.holding
  split
  · exact h
  · exact h.keep
theorem Ev.onRaise {m : Sem α} {a : α} {k : Value → Sem Unit} (h : Ev tb p w n₀ ann b N code below m pos s a pos₁ s₁) : Ev tb p w n₀ ann b N code below (m.onRaise k) pos s a pos₁ s₁ := by
  rw [Sem.onRaise_eq_wrap]; exact Ev.wrap (N₂ := 0) h .pure
theorem Ev.tryCatch {m : Sem α} {a : α} {k : Value → Sem α} (h : Ev tb p w n₀ ann b N code below m pos s a pos₁ s₁) : Ev tb p w n₀ ann b N code below (m.tryCatch k) pos s a pos₁ s₁ := by
  rw [Sem.tryCatch_eq_wrap]; exact Ev.wrap (N₂ := 0) h .pure

theorem EvC.done {c : Code} {f : Flow} {pos₁ : Pos} (h : Ev tb p w n₀ ann b N c below (denote tb c) pos s (.done f) pos₁ s₁) : EvC tb p w n₀ ann b (N + 1) c below pos s f s₁ := fun k hd g l cd q kept st h1 h2 => by
  obtain ⟨n, hn, e⟩ := h .pure .raise id id (.ret k hd g l cd q kept :: st) h1 (Nat.le_succ_of_le h2)
  rw [wrap_id] at e
  refine ⟨n + 1, Nat.add_le_add_right hn 1, (segGo_add e).trans ?_⟩
  refine (segGo_step (s' := s₁) (t' := ⟨k (.ok f), cd, q, st⟩) (endAt_deep (Nat.ne_of_gt (Nat.lt_succ_of_le h2))) rfl ?_).trans rfl
  rfl
theorem EvC.again {c c' : Code} {f : Flow} (h : Ev tb p w n₀ ann b N₁ c below (denote tb c) pos s (.again c') pos₁ s₁) (hq : c'.quiet = true) (h' : EvC tb p w n₀ ann b N₂ c' below pos₁ s₁ f s₂) :
    EvC tb p w n₀ ann b (N₁ + 1 + N₂) c below pos s f s₂ := fun k hd g l cd q kept st h1 h2 => by
  obtain ⟨n, hn, e⟩ := h .pure .raise id id (.ret k hd g l cd q kept :: st) h1 (Nat.le_succ_of_le h2)
  rw [wrap_id] at e
  have hst : ∃ kept', step (denote tb) p w s₁ ⟨.pure (.again c'), c, pos₁, .ret k hd g l cd q kept :: st⟩ = .go s₁ ⟨denote tb c', c', pos₁, .ret k hd g l cd q kept' :: st⟩ := by
    cases c <;> cases c' <;> exact ⟨_, rfl⟩
  obtain ⟨kept', hst⟩ := hst
  obtain ⟨n', hn', e'⟩ := h' k hd g l cd q kept' st h1 h2
  refine ⟨n + 1 + n', by omega, (segGo_add (n := n + 1) ((segGo_add e).trans ((segGo_step (endAt_deep (Nat.ne_of_gt (Nat.lt_succ_of_le h2))) ?_ hst).trans rfl))).trans e'⟩
  have hl := Thread.loud_again c' c pos₁ (.ret k hd g l cd q kept :: st)
  rw [hq] at hl
  show (Thread.calm _ && _) = true
  rw [Thread.calm_eq, hl]; rfl
theorem Ev.call {c : Code} {hd : Option Value} {g : Bool} {l : List Value} {k : Result → Sem α} {f : Flow} {a : α} (h : EvC tb p w n₀ ann b N₁ c ((code, pos) :: below) pos s f s₁)
    (h' : Ev tb p w n₀ ann b N₂ code below (k (.ok f)) pos s₁ a pos₂ s₂) : Ev tb p w n₀ ann b (1 + N₁ + N₂) code below (.call c hd g l k) pos s a pos₂ s₂ := fun K H gd lv st h1 h2 => by
  subst h1
  have hst : ∃ kept', step (denote tb) p w s ⟨.call c hd (gd g) (lv l) fun x => (k x).wrap K H gd lv, code, pos, st⟩ = .go s ⟨denote tb c, c, pos, .ret (fun x => (k x).wrap K H gd lv) hd (gd g) (lv l) code pos kept' :: st⟩ := ⟨_, rfl⟩
  obtain ⟨kept', hst⟩ := hst
  obtain ⟨n, hn, e⟩ := h (fun x => (k x).wrap K H gd lv) hd (gd g) (lv l) code pos kept' st rfl h2
  obtain ⟨n', hn', e'⟩ := h' K H gd lv st rfl h2
  refine ⟨(n + 1) + n', by omega, (segGo_add (n := n + 1) ?_).trans e'⟩
  exact (segGo_step (endAt_rule (t := ⟨.call c hd (gd g) (lv l) fun x => (k x).wrap K H gd lv, code, pos, st⟩) fun _ e => nomatch e) rfl hst).trans e
end
end Mine

-- part H2
set_option Elab.async false
set_option maxRecDepth 100000
namespace Mine
section
variable {p : Program} {w : World} {n₀ : Nat} {ann : Option Value} {b : Nat} {α : Type} {N N₁ N₂ : Nat} {code : Code} {below : List (Code × Pos)} {pos pos₁ pos₂ : Pos} {s s₁ s₂ : Shared}

theorem check_int_hash (k : Int) (t : Tok) : checkBuiltinCall "int.__hash__" ⟨[.int k t], []⟩ = pure () := by
  have hsplit : splitId "int.__hash__" = some ("int", "__hash__") := by decide +kernel
  have hk : builtinKind "int.__hash__" = some .slot := by decide +kernel
  have hi : isInstance (.int k t) (.type "int") = pure true := by
    show (do isSubtype (← typeOf (.int k t)) (.type "int")) = _
    exact isSubtype_int_int
  simp only [checkBuiltinCall, hk, hsplit, hi]
  have ha := args_int_hash (.int k t)
  simp only [argsOk] at ha
  cases hsig : Manifest.signature? "int.__hash__" with
  | none => rfl
  | some sig =>
    rw [hsig] at ha
    exact ha
theorem denote_builtin {id : String} {args : Args} {f : Builtin} (h : entryFor table id = some f) : denote table (.builtin id args) = f args := by
  show (match entryFor table id with | some b => b args | none => unsupported ((withoutEnding? id "#data").getD id)) = _
  rw [h]
theorem denote_call_builtin {id : String} {args : Args} (h : checkBuiltinCall id args = pure ()) : denote table (.call (.builtin id) args) = .pure (.again (.builtin id args)) := by
  show (do checkBuiltinCall id args; again (.builtin id args)) = _
  rw [h]; rfl
theorem evC_int_hash {k : Int} {t : Tok} : EvC table p w n₀ ann b 8 (.call (.builtin "int.__hash__") ⟨[.int k t], []⟩) below pos s (.ret (.int (rawHash k) s.toks)) { s with toks := s.toks + 1 } := by
  refine EvC.mono (EvC.again (N₁ := 0) (N₂ := 2) (c' := .builtin "int.__hash__" ⟨[.int k t], []⟩) (pos₁ := pos) (s₁ := s) ?_ (Code.quiet_builtin _ (by decide +kernel)) (EvC.done (N := 1) (pos₁ := pos) ?_)) (by decide)
  · rw [denote_call_builtin (check_int_hash k t)]
    exact Ev.pure
  · rw [denote_builtin entry_int_hash]
    show Ev table p w n₀ ann b 1 _ below (do ret (← mkInt (rawHash k))) pos s _ pos _
    exact Ev.fresh Ev.pure

theorem ev_hash_int {k : Int} {t : Tok} : Ev table p w n₀ ann b 16 code below (pyHash (.int k t)) pos s (hashInt k) pos { s with toks := s.toks + 1 } := by
  have hr := rawHash_range k
  have hv : [Value.int k t].any Value.onHeap = false := rfl
  have hsp : specialOf (.int k t) "__hash__" = pure (some (.builtin "int.__hash__")) := slot_int_hash.lookup
  show Ev table p w n₀ ann b 16 code below (pyHashByItsType (.int k t)) pos s (hashInt k) pos { s with toks := s.toks + 1 }
  unfold pyHashByItsType
  rw [cRoomFor, if_neg (by rw [hv]; exact Bool.false_ne_true), hsp]
  have hb : bindSpecialIfBound? (.int k t) "__hash__" = (do
      if (← ask).params.followText "special-get-raises" then (pure (some (.builtin "int.__hash__", [.int k t])) : Sem (Option (Value × List Value)))
      else (pure (some (.builtin "int.__hash__", [.int k t])) : Sem (Option (Value × List Value))).tryCatch fun _ => do rule "special.get-raises-dropped"; pure none) := by
    unfold bindSpecialIfBound?
    rw [hsp]
    show (do if (← ask).params.followText "special-get-raises" then (do return some (← bindSpecial (.builtin "int.__hash__") (.int k t)) : Sem (Option (Value × List Value))) else _) = _
    rw [slot_int_hash.bind]
    rfl
  have hbe : Ev table p w n₀ ann b 1 code below (bindSpecialIfBound? (.int k t) "__hash__") pos s (some (.builtin "int.__hash__", [.int k t])) pos s := by
    rw [hb]
    refine Ev.ask ?_
    show Ev table p w n₀ ann b 0 code below (if w.params.followText "special-get-raises" = true then _ else _) pos s _ pos s
    split
    · exact Ev.pure
    · exact Ev.pure
  have hcall : Ev table p w n₀ ann b 9 code below (call (.builtin "int.__hash__") [.int k t]) pos s (.int (rawHash k) s.toks) pos { s with toks := s.toks + 1 } := by
    exact Ev.call (N₁ := 8) (N₂ := 0) evC_int_hash Ev.pure
  have hcs : ∀ r, Ev table p w n₀ ann b 10 code below (callSpecialIfBoundUnlessNone? (.int k t) "__hash__" r) pos s (some (.int (rawHash k) s.toks)) pos { s with toks := s.toks + 1 } := by
    intro r
    unfold callSpecialIfBoundUnlessNone?
    refine Ev.holding (Ev.bind (N₁ := 1) (N₂ := 9) hbe ?_)
    exact Ev.bind (N₁ := 9) (N₂ := 0) hcall Ev.pure
  refine Ev.mono (N₁ := 10) ?_ (by decide)
  refine Ev.bind (N₁ := 0) (N₂ := 10) (a := ()) Ev.pure ?_
  refine Ev.bind (N₁ := 0) (N₂ := 10) Ev.pure ?_
  show Ev table p w n₀ ann b 10 code below (if (some (Value.builtin "int.__hash__") == some Value.none) = true then _ else _) pos s _ pos _
  rw [if_neg (by rw [beq_builtin_none]; exact Bool.false_ne_true)]
  refine Ev.bind (N₁ := 0) (N₂ := 10) Ev.pure ?_
  show Ev table p w n₀ ann b 10 code below (callSpecialIfBoundUnlessNone? (.int k t) "__hash__" _ >>= _) pos s _ pos _
  refine Ev.bind (N₁ := 10) (N₂ := 0) (hcs _) ?_
  show Ev table p w n₀ ann b 0 code below (if (decide (-(2 : Int) ^ 63 ≤ rawHash k) && decide (rawHash k < 2 ^ 63)) = true then _ else _) pos _ _ pos _
  rw [if_pos (by rw [decide_eq_true hr.1, decide_eq_true hr.2]; rfl)]
  exact Ev.pure
end
end Mine

-- part H3
set_option Elab.async false
set_option maxRecDepth 100000
namespace Mine

/-- a heap with objects laid behind it -/
def ext (h : Heap) (ns : List Obj) : Heap := ⟨h.objs ++ ns.toArray, h.life⟩
theorem ext_nil (h : Heap) : ext h [] = h := by simp [ext]
theorem ext_size (h : Heap) (ns : List Obj) : (ext h ns).objs.size = h.objs.size + ns.length := by simp [ext]
theorem ext_push (h : Heap) (ns : List Obj) (o : Obj) : (ext h ns).push o = ext h (ns ++ [o]) := by
  simp only [ext, Heap.push, Heap.mk.injEq, and_true]
  apply Array.ext'
  simp
theorem ext_ext (h : Heap) (ns ms : List Obj) : ext (ext h ns) ms = ext h (ns ++ ms) := by
  simp only [ext, Heap.mk.injEq, and_true]
  apply Array.ext'
  simp
theorem ext_get {h : Heap} {ns : List Obj} {i : Nat} {o : Obj} (hi : ns[i]? = some o) (hf : o.isFreed = false) : (ext h ns).get? (h.objs.size + i) = some o := by
  have hl : (h.objs ++ ns.toArray)[h.objs.size + i]? = some o := by
    rw [Array.getElem?_append_right (by omega)]
    simpa using hi
  unfold Heap.get? ext
  dsimp only
  rw [hl]
  obtain ⟨c, d, dt, sl⟩ := o
  cases dt <;> first | rfl | cases hf
theorem ext_update {h : Heap} {ns : List Obj} {i : Nat} {o : Obj} (f : Obj → Obj) (hi : ns[i]? = some o) : (ext h ns).update (h.objs.size + i) f = ext h (ns.set i (f o)) := by
  obtain ⟨hlt, rfl⟩ := List.getElem?_eq_some_iff.mp hi
  simp only [ext, Heap.update, Heap.mk.injEq, and_true]
  apply Array.ext
  · simp
  · intro j h1 h2
    rw [Array.getElem_modify]
    by_cases hj : h.objs.size + i = j
    · subst hj
      simp
    · rw [if_neg hj]
      simp only [Array.getElem_append, List.getElem_toArray, List.getElem_set]
      split
      · rfl
      · rw [if_neg (by omega)]

/-- a dict object -/
def dObj (es : List DictEntry) (n : Nat) : Obj := { cls := .type "dict", data := .dict es.toArray n }
theorem dObj_push (es : List DictEntry) (n : Nat) (e : DictEntry) : Obj.mapDictKeys (·.push e) (dObj es n) = dObj (es ++ [e]) (n + 1) := by
  simp [dObj, Obj.mapDictKeys]

/-- a state with objects laid behind its heap -/
def S (s : Shared) (ns : List Obj) (t : Nat) : Shared := { s with heap := ext s.heap ns, toks := t }

theorem hashInt_small {k : Int} (h0 : 0 ≤ k) (h1 : k < 2 ^ 60) : hashInt k = k := by
  have h2 : (k.natAbs : Int) % ((2 ^ 61 - 1 : Nat) : Int) = k := by rw [Int.emod_eq_of_lt (by omega) (by omega)]; omega
  have h3 : rawHash k = k := by
    have h4 : ¬ k < 0 := by omega
    have h5 : ¬ k = -1 := by omega
    have h6 : (k.natAbs : Int) % 2305843009213693951 = k := h2
    simp [rawHash, h4]
    rw [h6, if_neg h5]
  rw [hashInt, h3, if_neg]
  simp only [beq_iff_eq]; omega

theorem places_none {es : Array DictEntry} {h : Int} (hm : ∀ e ∈ es.toList, e.hash ≠ h) : placesWithHash es.size (fun i => es[i]?.map (·.hash)) h = [] := by
  unfold placesWithHash
  rw [List.filter_eq_nil_iff]
  intro i _ hc
  have hc' : es[i]?.map (·.hash) = some h := by simpa using hc
  obtain ⟨e, he, hh⟩ := Option.map_eq_some_iff.mp hc'
  exact hm e (Array.mem_toList_iff.mpr (Array.mem_of_getElem? he)) hh

section
variable {p : Program} {w : World} {n₀ : Nat} {ann : Option Value} {b : Nat} {α : Type} {N N₁ N₂ : Nat} {code : Code} {below : List (Code × Pos)} {pos pos₁ pos₂ : Pos} {s s₁ s₂ : Shared}

theorem ev_dictEntries {d : Addr} {part : Option Value} {es : List DictEntry} {n : Nat} (ho : s.heap.get? d = some (dObj es n)) : Ev table p w n₀ ann b 1 code below (dictEntries d part) pos s es.toArray pos s :=
  Ev.load ho Ev.pure
theorem ev_dictEpoch {d : Addr} {part : Option Value} {es : List DictEntry} {n : Nat} (ho : s.heap.get? d = some (dObj es n)) : Ev table p w n₀ ann b 1 code below (dictEpoch d part) pos s n pos s :=
  Ev.load ho Ev.pure

theorem ev_dictFind_miss {d : Addr} {k : Int} {t : Tok} {h : Int} {es : List DictEntry} {n : Nat} (ho : s.heap.get? d = some (dObj es n)) (hm : ∀ e ∈ es, e.hash ≠ h) :
    Ev table p w n₀ ann b 1 code below (dictFind d (.int k t) h) pos s none pos s := by
  unfold dictFind
  refine Ev.holding (Ev.bind (N₁ := 1) (N₂ := 0) (ev_dictEntries ho) ?_)
  have hp := places_none (es := es.toArray) (h := h) (by simpa using hm)
  dsimp only
  rw [hp]
  exact Ev.pure
theorem ev_updateKeys {i : Nat} {ns : List Obj} {tk : Nat} {part : Option Value} {es : List DictEntry} {n : Nat} {e : DictEntry} (hi : ns[i]? = some (dObj es n)) (hn : n₀ ≤ s.heap.objs.size) (hsz : es.length < 100000) :
    Ev table p w n₀ ann b 3 code below (updateDictKeys (s.heap.objs.size + i) (·.push e) part) pos (S s ns tk) () pos (S s (ns.set i (dObj (es ++ [e]) (n + 1))) tk) := by
  unfold updateDictKeys
  have ho : (S s ns tk).heap.get? (s.heap.objs.size + i) = some (dObj es n) := ext_get hi rfl
  refine Ev.load ho ?_
  dsimp only [dObj]
  refine Ev.update (.inl (by omega)) (by rw [ho]; rfl) ?_
  have hu : ({ S s ns tk with heap := (S s ns tk).heap.update (s.heap.objs.size + i) (Obj.mapDictKeys (·.push e)) } : Shared) = S s (ns.set i (dObj (es ++ [e]) (n + 1))) tk := by
    simp only [S]
    rw [ext_update _ hi, dObj_push]
  rw [hu]
  unfold lookBehind
  have hlt : i < ns.length := (List.getElem?_eq_some_iff.mp hi).1
  refine Ev.load (o := dObj (es ++ [e]) (n + 1)) (ext_get (by rw [List.getElem?_set_self hlt]) rfl) ?_
  have hp : (dObj (es ++ [e]) (n + 1)).data.pastItsLine = none := pastItsLine_dict (by rw [sizeLine_eq]; simp; omega)
  simp only [Sem.bind, hp]
  exact Ev.pure
theorem ev_dictSet {i : Nat} {ns : List Obj} {tk : Nat} {es : List DictEntry} {n : Nat} {k : Int} {t : Tok} {v : Value} (hi : ns[i]? = some (dObj es n)) (hn : n₀ ≤ s.heap.objs.size) (hsz : es.length < 100000)
    (h0 : 0 ≤ k) (h1 : k < 2 ^ 60) (hm : ∀ e ∈ es, e.hash ≠ k) :
    Ev table p w n₀ ann b 21 code below (dictSet (s.heap.objs.size + i) (.int k t) v) pos (S s ns tk) () pos (S s (ns.set i (dObj (es ++ [⟨k, .int k t, v⟩]) (n + 1))) (tk + 1)) := by
  unfold dictSet
  refine Ev.holding (Ev.bind (N₁ := 16) (N₂ := 5) ev_hash_int ?_)
  rw [hashInt_small h0 h1]
  unfold dictSetHashed
  refine Ev.holding (Ev.bind (N₁ := 1) (N₂ := 4) (ev_dictFind_miss (s := S s ns (tk + 1)) (ext_get hi rfl) hm) ?_)
  exact Ev.rule (ev_updateKeys (tk := tk + 1) hi hn hsz)
theorem ev_dictPut {i : Nat} {ns : List Obj} {tk : Nat} {es : List DictEntry} {n : Nat} {k : Int} {t : Tok} {v : Value} (hi : ns[i]? = some (dObj es n)) (hn : n₀ ≤ s.heap.objs.size) (hsz : es.length < 100000)
    (hm : ∀ e ∈ es, e.hash ≠ k) :
    Ev table p w n₀ ann b 4 code below (dictPut (s.heap.objs.size + i) k (.int k t) v) pos (S s ns tk) () pos (S s (ns.set i (dObj (es ++ [⟨k, .int k t, v⟩]) (n + 1))) tk) := by
  unfold dictPut
  refine Ev.bind (N₁ := 1) (N₂ := 3) (ev_dictFind_miss (s := S s ns tk) (ext_get hi rfl) hm) ?_
  exact ev_updateKeys hi hn hsz
end
end Mine

-- part H4
set_option Elab.async false
set_option maxRecDepth 100000
namespace Mine
section
variable {p : Program} {w : World} {n₀ : Nat} {ann : Option Value} {b : Nat} {α : Type} {N N₁ N₂ : Nat} {code : Code} {below : List (Code × Pos)} {pos pos₁ pos₂ q : Pos} {s s₁ s₂ : Shared}

theorem Ev.ruleB {tag : String} {F : Unit → Sem α} {a : α} (h : Ev table p w n₀ ann b N code below (F ()) pos s a pos₂ s₂) : Ev table p w n₀ ann b (N + 1) code below (PySem.rule tag >>= F) pos s a pos₂ s₂ := Ev.rule h
theorem ev_forIn {δ γ : Type} {F : γ → PUnit → Sem (ForInStep PUnit)} {G : δ → γ} (c : Nat) (σ : List δ → Shared) : ∀ (l pre : List δ),
    (∀ pr x po, pre ++ l = pr ++ x :: po → Ev table p w n₀ ann b c code below (F (G x) PUnit.unit) q (σ pr) (.yield PUnit.unit) q (σ (pr ++ [x]))) →
    Ev table p w n₀ ann b (c * l.length) code below (forIn (l.map G) PUnit.unit F) q (σ pre) PUnit.unit q (σ (pre ++ l)) := by
  intro l
  induction l with
  | nil => intro pre _; rw [List.append_nil]; exact Ev.pure
  | cons x l ih =>
    intro pre h
    rw [List.map_cons, List.forIn_cons]
    refine Ev.mono (Ev.bind (N₁ := c) (N₂ := c * l.length) (h pre x l rfl) ?_) (by rw [List.length_cons, Nat.mul_add]; omega)
    have := ih (pre ++ [x]) (fun pr y po e => h pr y po (by simpa using e))
    simpa using this
theorem ev_forRange {F : Nat → PUnit → Sem (ForInStep PUnit)} (c : Nat) (σ : Nat → Shared) : ∀ (n i : Nat),
    (∀ j, j < i + n → i ≤ j → Ev table p w n₀ ann b c code below (F j PUnit.unit) q (σ j) (.yield PUnit.unit) q (σ (j + 1))) →
    Ev table p w n₀ ann b (c * n) code below (forIn (List.range' i n) PUnit.unit F) q (σ i) PUnit.unit q (σ (i + n)) := by
  intro n
  induction n with
  | zero => intro i _; exact Ev.pure
  | succ n ih =>
    intro i h
    rw [List.range'_succ, List.forIn_cons]
    refine Ev.mono (Ev.bind (N₁ := c) (N₂ := c * n) (h i (by omega) (Nat.le_refl _)) ?_) (by rw [Nat.mul_add]; omega)
    have := ih (i + 1) (fun j h1 h2 => h j (by omega) (by omega))
    rw [show i + 1 + n = i + (n + 1) by omega] at this
    exact this

/-- the pairs of a display -/
def pr (q : Pos) (x : Int × Str) : Sem Value × Sem Value := (mkInt x.1, do let v ← mkText x.2; standAt q; pure v)
def entry (tk : Nat) (x : Int × Str) : DictEntry := ⟨x.1, .int x.1 tk, .str x.2 (tk + 1)⟩
def ents (tk : Nat) : List (Int × Str) → List DictEntry
  | [] => []
  | x :: r => entry tk x :: ents (tk + 3) r
theorem ents_append (tk : Nat) (l : List (Int × Str)) (x : Int × Str) : ents tk (l ++ [x]) = ents tk l ++ [entry (tk + 3 * l.length) x] := by
  induction l generalizing tk with
  | nil => rfl
  | cons y l ih => simp only [List.cons_append, ents, ih, List.length_cons]; rw [show tk + 3 + 3 * l.length = tk + 3 * (l.length + 1) by omega]
theorem ents_length (tk : Nat) (l : List (Int × Str)) : (ents tk l).length = l.length := by
  induction l generalizing tk with
  | nil => rfl
  | cons y l ih => simp only [ents, ih, List.length_cons]
theorem ents_hash (tk : Nat) (l : List (Int × Str)) : (ents tk l).map (·.hash) = l.map (·.1) := by
  induction l generalizing tk with
  | nil => rfl
  | cons y l ih => simp only [ents, List.map_cons, ih]; rfl

/-- keys that rise -/
def Rise (l : List Int) : Prop := l.Pairwise (· < ·) ∧ ∀ x ∈ l, 0 ≤ x ∧ x < 2 ^ 60
def rises (lo : Int) : List Int → Bool
  | [] => true
  | x :: r => decide (lo ≤ x) && decide (x < 2 ^ 60) && rises (x + 1) r
theorem rise_of (lo : Int) (h0 : 0 ≤ lo) : ∀ l, rises lo l = true → Rise l ∧ ∀ x ∈ l, lo ≤ x := by
  intro l
  induction l generalizing lo with
  | nil => intro _; exact ⟨⟨.nil, fun _ h => nomatch h⟩, fun _ h => nomatch h⟩
  | cons x r ih =>
    intro h
    simp only [rises, Bool.and_eq_true, decide_eq_true_eq] at h
    obtain ⟨⟨h1, h2⟩, h3⟩ := h
    obtain ⟨⟨a, c⟩, d⟩ := ih (x + 1) (by omega) h3
    refine ⟨⟨List.Pairwise.cons (fun y hy => by have := d y hy; omega) a, ?_⟩, ?_⟩
    · intro y hy
      rcases List.mem_cons.mp hy with rfl | hy
      · omega
      · exact c y hy
    · intro y hy
      rcases List.mem_cons.mp hy with rfl | hy
      · exact h1
      · have := d y hy; omega
theorem Rise.miss {es : List DictEntry} {k : Int} {r : List Int} (h : Rise (es.map (·.hash) ++ k :: r)) : ∀ e ∈ es, e.hash ≠ k := by
  intro e he
  have h1 := (List.pairwise_append.mp h.1).2.2 e.hash (List.mem_map_of_mem he) k (List.mem_cons_self ..)
  omega
theorem Rise.left {l r : List Int} (h : Rise (l ++ r)) : Rise l := ⟨(List.pairwise_append.mp h.1).1, fun x hx => h.2 x (List.mem_append_left _ hx)⟩
theorem Rise.right {l r : List Int} (h : Rise (l ++ r)) : Rise r := ⟨(List.pairwise_append.mp h.1).2.1, fun x hx => h.2 x (List.mem_append_right _ hx)⟩

theorem set_last (ns : List Obj) (o o' : Obj) : (ns ++ [o]).set ns.length o' = ns ++ [o'] := by
  induction ns with
  | nil => rfl
  | cons x ns ih => simp only [List.cons_append, List.length_cons, List.set_cons_succ, ih]
theorem get_last (ns : List Obj) (o : Obj) : (ns ++ [o])[ns.length]? = some o := by simp

theorem ev_subLong {ns : List Obj} {tk : Nat} (l : List (Int × Str)) (hl : 15 < l.length) (hl' : l.length < 1000) (hr : Rise (l.map (·.1))) (hn : n₀ ≤ s.heap.objs.size) :
    Ev table p w n₀ ann b (24 * l.length + 2) code below (subDict (l.map (pr q))) q (S s ns tk) (s.heap.objs.size + ns.length) q (S s (ns ++ [dObj (ents tk l) l.length]) (tk + 3 * l.length)) := by
  unfold subDict
  refine Ev.mono (Ev.bind (N₁ := 1) (N₂ := 24 * l.length + 1) (a := s.heap.objs.size + ns.length) (pos₁ := q) (s₁ := S s (ns ++ [dObj [] 0]) tk) ?_ ?_) (by omega)
  · refine Ev.alloc ?_
    have e1 : (S s ns tk).heap.objs.size = s.heap.objs.size + ns.length := ext_size _ _
    have e2 : ({ S s ns tk with heap := (S s ns tk).heap.push { cls := .type "dict", data := .dict #[] } } : Shared) = S s (ns ++ [dObj [] 0]) tk := by
      simp only [S]; rw [ext_push]; rfl
    rw [e1, e2]; exact Ev.pure
  refine Ev.bind (N₁ := 24 * l.length + 1) (N₂ := 0) (a := ()) (pos₁ := q) (Ev.holding ?_) Ev.pure
  rw [if_neg (by rw [List.length_map]; omega)]
  refine Ev.ruleB ?_
  refine Ev.bind (N₁ := 24 * l.length) (N₂ := 0) (pos₁ := q) (a := PUnit.unit) ?_ Ev.pure
  have key := ev_forIn (p := p) (w := w) (n₀ := n₀) (ann := ann) (b := b) (code := code) (below := below) (q := q) (G := pr q)
    (F := fun x _ => match x with | (k, v) => do
      let kv ← k
      let vv ← holding [kv] v
      holding [kv, vv] (dictSet (s.heap.objs.size + ns.length) kv vv)
      pure (ForInStep.yield PUnit.unit)) 24 (fun pre => S s (ns ++ [dObj (ents tk pre) pre.length]) (tk + 3 * pre.length)) l [] ?_
  · exact key
  · intro pre x po e
    rw [List.nil_append] at e
    have hk : Rise ((ents (tk) pre).map (·.hash) ++ x.1 :: po.map (·.1)) := by rw [ents_hash]; rw [e, List.map_append, List.map_cons] at hr; exact hr
    have hx := hr.2 x.1 (by rw [e]; simp)
    have hlen : pre.length < 1000 := by have := congrArg List.length e; simp at this; omega
    dsimp only [pr]
    refine Ev.bind (N₁ := 1) (N₂ := 23) (a := .int x.1 (tk + 3 * pre.length)) (s₁ := S s (ns ++ [dObj (ents tk pre) pre.length]) (tk + 3 * pre.length + 1)) (Ev.fresh Ev.pure) ?_
    refine Ev.bind (N₁ := 2) (N₂ := 21) (a := .str x.2 (tk + 3 * pre.length + 1)) (s₁ := S s (ns ++ [dObj (ents tk pre) pre.length]) (tk + 3 * pre.length + 2)) (Ev.holding (Ev.fresh (Ev.at Ev.pure))) ?_
    refine Ev.bind (N₁ := 21) (N₂ := 0) (a := ()) (Ev.holding (ev_dictSet (get_last _ _) hn (by rw [ents_length]; omega) hx.1 hx.2 hk.miss)) ?_
    rw [set_last, ents_append, List.length_append, show tk + 3 * pre.length + 2 + 1 = tk + 3 * (pre.length + [x].length) by simp; omega]
    exact Ev.pure

/-- the short display -/
def vals (tk : Nat) : List (Int × Str) → List (Value × Value)
  | [] => []
  | x :: r => (.int x.1 tk, .str x.2 (tk + 1)) :: vals (tk + 2) r
def entsS (tk : Nat) : List (Int × Str) → List DictEntry
  | [] => []
  | x :: r => entry tk x :: entsS (tk + 2) r
theorem entsS_append (tk : Nat) (l : List (Int × Str)) (x : Int × Str) : entsS tk (l ++ [x]) = entsS tk l ++ [entry (tk + 2 * l.length) x] := by
  induction l generalizing tk with
  | nil => rfl
  | cons y l ih => simp only [List.cons_append, entsS, ih, List.length_cons]; rw [show tk + 2 + 2 * l.length = tk + 2 * (l.length + 1) by omega]
theorem entsS_length (tk : Nat) (l : List (Int × Str)) : (entsS tk l).length = l.length := by
  induction l generalizing tk with
  | nil => rfl
  | cons y l ih => simp only [entsS, ih, List.length_cons]
theorem entsS_hash (tk : Nat) (l : List (Int × Str)) : (entsS tk l).map (·.hash) = l.map (·.1) := by
  induction l generalizing tk with
  | nil => rfl
  | cons y l ih => simp only [entsS, List.map_cons, ih]; rfl
theorem ev_evalPairs {ns : List Obj} : ∀ (l : List (Int × Str)) (tk : Nat), Ev table p w n₀ ann b (3 * l.length) code below (evalPairs (l.map (pr q))) q (S s ns tk) (vals tk l) q (S s ns (tk + 2 * l.length)) := by
  intro l
  induction l with
  | nil => intro tk; exact Ev.pure
  | cons x l ih =>
    intro tk
    rw [List.map_cons]
    unfold pr evalPairs
    refine Ev.mono (N₁ := 1 + (2 + (3 * l.length + 0))) ?_ (by rw [List.length_cons]; omega)
    refine Ev.bind (a := .int x.1 tk) (s₁ := S s ns (tk + 1)) (pos₁ := q) (Ev.fresh Ev.pure) ?_
    refine Ev.bind (N₁ := 2) (a := .str x.2 (tk + 1)) (s₁ := S s ns (tk + 2)) (pos₁ := q) (Ev.holding (Ev.fresh (Ev.at Ev.pure))) ?_
    have h := ih (tk + 2)
    rw [show tk + 2 + 2 * l.length = tk + 2 * (x :: l).length by rw [List.length_cons]; omega] at h
    exact Ev.bind (Ev.holding h) Ev.pure
/-- what the loop over the values takes -/
theorem vals_append (tk : Nat) (l : List (Int × Str)) (x : Int × Str) : vals tk (l ++ [x]) = vals tk l ++ [(.int x.1 (tk + 2 * l.length), .str x.2 (tk + 2 * l.length + 1))] := by
  induction l generalizing tk with
  | nil => rfl
  | cons y l ih => simp only [List.cons_append, vals, ih, List.length_cons]; rw [show tk + 2 + 2 * l.length = tk + 2 * (l.length + 1) by omega]
theorem ev_sets {ns : List Obj} {F : Value × Value → PUnit → Sem (ForInStep PUnit)} (hF : ∀ k v, F (k, v) PUnit.unit = (do dictSet (s.heap.objs.size + ns.length) k v; pure (ForInStep.yield PUnit.unit))) (hn : n₀ ≤ s.heap.objs.size) :
    ∀ (l : List (Int × Str)) (tk t : Nat) (es : List DictEntry), Rise (es.map (·.hash) ++ l.map (·.1)) → es.length + l.length < 1000 →
      Ev table p w n₀ ann b (21 * l.length) code below (forIn (vals tk l) PUnit.unit F) q (S s (ns ++ [dObj es es.length]) t) PUnit.unit q (S s (ns ++ [dObj (es ++ entsS tk l) (es.length + l.length)]) (t + l.length)) := by
  intro l
  induction l with
  | nil => intro tk t es _ _; simp only [vals, entsS, List.append_nil, List.length_nil]; exact Ev.pure
  | cons x l ih =>
    intro tk t es hr hl
    rw [List.map_cons] at hr
    have hx := hr.2 x.1 (by simp)
    simp only [List.length_cons] at hl
    rw [vals, List.forIn_cons, hF]
    refine Ev.mono (N₁ := 21 + 0 + 21 * l.length) ?_ (by rw [List.length_cons]; omega)
    refine Ev.bind (a := ForInStep.yield PUnit.unit) (pos₁ := q) (s₁ := S s (ns ++ [dObj (es ++ [entry tk x]) (es.length + 1)]) (t + 1)) ?_ ?_
    · have h := ev_dictSet (p := p) (w := w) (n₀ := n₀) (ann := ann) (b := b) (code := code) (below := below) (pos := q) (s := s) (ns := ns ++ [dObj es es.length]) (tk := t) (t := tk) (v := .str x.2 (tk + 1)) (get_last ns (dObj es es.length)) hn (by omega) hx.1 hx.2 hr.miss
      rw [set_last] at h
      exact Ev.bind h Ev.pure
    · have h := ih (tk + 2) (t + 1) (es ++ [entry tk x]) (by rw [List.map_append]; simpa [entry] using hr) (by simp; omega)
      rw [List.length_append] at h
      rw [entsS, List.length_cons]
      simp only [List.append_assoc, List.singleton_append, List.length_singleton] at h
      rw [show t + (l.length + 1) = t + 1 + l.length by omega, show es.length + (l.length + 1) = es.length + 1 + l.length by omega]
      exact h
theorem ev_subShort {ns : List Obj} {tk : Nat} (l : List (Int × Str)) (hl : l.length ≤ 15) (hr : Rise (l.map (·.1))) (hn : n₀ ≤ s.heap.objs.size) :
    Ev table p w n₀ ann b (24 * l.length + 2) code below (subDict (l.map (pr q))) q (S s ns tk) (s.heap.objs.size + ns.length) q (S s (ns ++ [dObj (entsS tk l) l.length]) (tk + 3 * l.length)) := by
  unfold subDict
  refine Ev.mono (Ev.bind (N₁ := 1) (N₂ := 24 * l.length) (a := s.heap.objs.size + ns.length) (pos₁ := q) (s₁ := S s (ns ++ [dObj [] 0]) tk) ?_ ?_) (by omega)
  · refine Ev.alloc ?_
    have e1 : (S s ns tk).heap.objs.size = s.heap.objs.size + ns.length := ext_size _ _
    have e2 : ({ S s ns tk with heap := (S s ns tk).heap.push { cls := .type "dict", data := .dict #[] } } : Shared) = S s (ns ++ [dObj [] 0]) tk := by
      simp only [S]; rw [ext_push]; rfl
    rw [e1, e2]; exact Ev.pure
  refine Ev.bind (N₁ := 24 * l.length) (N₂ := 0) (a := ()) (pos₁ := q) (Ev.holding ?_) Ev.pure
  rw [if_pos (by rw [List.length_map]; omega)]
  refine Ev.mono (N₁ := 3 * l.length + 21 * l.length) ?_ (by omega)
  refine Ev.bind (pos₁ := q) (ev_evalPairs l tk) (Ev.holding ?_)
  refine Ev.bind (N₂ := 0) (pos₁ := q) (a := PUnit.unit) ?_ Ev.pure
  have h := ev_sets (p := p) (w := w) (n₀ := n₀) (ann := ann) (b := b) (code := code) (below := below) (q := q) (s := s) (ns := ns) (F := fun x _ => match x with | (k, v) => do
      dictSet (s.heap.objs.size + ns.length) k v
      pure (ForInStep.yield PUnit.unit)) (fun _ _ => rfl) hn l tk (tk + 2 * l.length) [] (by simpa using hr) (by simp; omega)
  simp only [List.length_nil, List.nil_append, Nat.zero_add] at h
  rw [show tk + 2 * l.length + l.length = tk + 3 * l.length by omega] at h
  exact h

/-- one dict laid into another -/
theorem ev_merge {ns : List Obj} {tk j : Nat} {es es' : List DictEntry} {n n' : Nat} (h0 : ns[0]? = some (dObj es n)) (hj : ns[j]? = some (dObj es' n')) (hj0 : j ≠ 0) (hne : es ≠ []) (hr : Rise (es.map (·.hash) ++ es'.map (·.hash)))
    (hk : ∀ e ∈ es', ∃ k t v, e = ⟨k, .int k t, v⟩) (hlen : es.length + es'.length < 10000) (hn : n₀ ≤ s.heap.objs.size) (hs : 2 ≤ s.heap.objs.size) :
    Ev table p w n₀ ann b (6 * es'.length + 6) code below (mergeMapping (s.heap.objs.size + 0) (.ref (s.heap.objs.size + j)) false) q (S s ns tk) () q (S s (ns.set 0 (dObj (es ++ es') (n + es'.length))) tk) := by
  have hgj : (S s ns tk).heap.get? (s.heap.objs.size + j) = some (dObj es' n') := ext_get hj rfl
  have hg0 : (S s ns tk).heap.get? (s.heap.objs.size + 0) = some (dObj es n) := ext_get h0 rfl
  have hl0 : 0 < ns.length := (List.getElem?_eq_some_iff.mp h0).1
  unfold mergeMapping
  refine Ev.mono (N₁ := 1 + (1 + (0 + (1 + (1 + (1 + (6 * es'.length + 0))))))) ?_ (by omega)
  refine Ev.bind (N₁ := 1) (a := true) (pos₁ := q) (s₁ := S s ns tk) ?_ ?_
  · show Ev table p w n₀ ann b 1 code below (do isSubtype (← typeOf (.ref (s.heap.objs.size + j))) (.type "dict")) q (S s ns tk) true q (S s ns tk)
    refine Ev.load hgj ?_
    show Ev table p w n₀ ann b 0 code below (isSubtype (.type "dict") (.type "dict")) q (S s ns tk) true q (S s ns tk)
    rw [isSubtype_dict_dict]; exact Ev.pure
  dsimp only
  rw [if_pos rfl]
  refine Ev.bind (N₁ := 1) (a := some (.builtin "dict.__iter__")) (pos₁ := q) (s₁ := S s ns tk) ?_ ?_
  · show Ev table p w n₀ ann b 1 code below (do typeLookup (← typeOf (.ref (s.heap.objs.size + j))) "__iter__") q (S s ns tk) _ q (S s ns tk)
    refine Ev.load hgj ?_
    show Ev table p w n₀ ann b 0 code below (typeLookup (.type "dict") "__iter__") q (S s ns tk) _ q (S s ns tk)
    rw [PySem.F.slot_dict_iter.lookup]; exact Ev.pure
  refine Ev.bind (N₁ := 0) (a := true) (pos₁ := q) (s₁ := S s ns tk) ?_ ?_
  · rw [beq_self_eq_true]; exact Ev.pure
  dsimp only
  rw [if_neg (by simp only [beq_iff_eq]; show ¬ (s.heap.objs.size + j = 1); omega)]
  refine Ev.bind (pos₁ := q) (ev_dictEntries hg0) ?_
  rw [if_neg (by simpa using hne)]
  refine Ev.bind (pos₁ := q) (ev_dictEntries hgj) ?_
  refine Ev.bind (pos₁ := q) (ev_dictEpoch hgj) ?_
  refine Ev.bind (N₁ := 6 * es'.length) (N₂ := 0) (pos₁ := q) (a := PUnit.unit) ?_ Ev.pure
  rw [List.size_toArray, List.range_eq_range']
  have h := ev_forRange (p := p) (w := w) (n₀ := n₀) (ann := ann) (b := b) (code := code) (below := below) (q := q) 6
    (fun i => S s (ns.set 0 (dObj (es ++ es'.take i) (n + i))) tk) es'.length 0 (F := ?_) ?_
  · simp only [List.take_zero, List.append_nil, Nat.add_zero, Nat.zero_add, List.take_length] at h
    rw [show ns.set 0 (dObj es n) = ns by
      apply List.ext_getElem?
      intro i
      by_cases hi : i = 0
      · subst hi; rw [List.getElem?_set_self hl0, h0]
      · rw [List.getElem?_set_ne (Ne.symm hi)]] at h
    exact h
  · intro i hi _
    rw [Nat.zero_add] at hi
    obtain ⟨k, t, v, he⟩ := hk es'[i] (List.getElem_mem hi)
    have hg' : (S s (ns.set 0 (dObj (es ++ es'.take i) (n + i))) tk).heap.get? (s.heap.objs.size + j) = some (dObj es' n') := ext_get (by rw [List.getElem?_set_ne (Ne.symm hj0)]; exact hj) rfl
    refine Ev.bind (N₁ := 1) (N₂ := 5) (pos₁ := q) (ev_dictEntries hg') ?_
    have hei : es'.toArray[i]? = some ⟨k, .int k t, v⟩ := by rw [List.getElem?_toArray, List.getElem?_eq_getElem hi, he]
    rw [hei]
    have hs' : es'.map (·.hash) = (es'.take i).map (·.hash) ++ k :: (es'.drop (i + 1)).map (·.hash) := by
      conv => lhs; rw [← List.take_append_drop i es']
      rw [List.map_append, List.drop_eq_getElem_cons hi, List.map_cons, he]
    have hmiss : ∀ e ∈ es ++ es'.take i, e.hash ≠ k := by
      refine Rise.miss (r := (es'.drop (i + 1)).map (·.hash)) ?_
      rw [hs', ← List.append_assoc, ← List.map_append] at hr
      exact hr
    have hput := ev_dictPut (p := p) (w := w) (n₀ := n₀) (ann := ann) (b := b) (code := code) (below := below) (pos := q) (s := s) (ns := ns.set 0 (dObj (es ++ es'.take i) (n + i))) (tk := tk) (i := 0) (t := t) (v := v)
      (by rw [List.getElem?_set_self hl0]) hn (by simp; omega) hmiss
    rw [List.set_set] at hput
    refine Ev.bind (N₁ := 4) (N₂ := 1) (a := ()) (pos₁ := q) (Ev.holding hput) ?_
    have hst : es ++ es'.take i ++ [⟨k, .int k t, v⟩] = es ++ es'.take (i + 1) := by
      rw [List.append_assoc, ← he, List.take_append_getElem hi]
    rw [hst, show n + i + 1 = n + (i + 1) by omega]
    have hg'' : (S s (ns.set 0 (dObj (es ++ es'.take (i + 1)) (n + (i + 1)))) tk).heap.get? (s.heap.objs.size + j) = some (dObj es' n') := ext_get (by rw [List.getElem?_set_ne (Ne.symm hj0)]; exact hj) rfl
    refine Ev.bind (N₁ := 1) (N₂ := 0) (pos₁ := q) (ev_dictEpoch hg'') ?_
    rw [if_neg (by simp)]
    exact Ev.pure
end
end Mine

-- part H5
set_option Elab.async false
set_option maxRecDepth 100000
namespace Mine
section
variable {p : Program} {w : World} {n₀ : Nat} {ann : Option Value} {b : Nat} {α : Type} {N N₁ N₂ : Nat} {code : Code} {below : List (Code × Pos)} {pos pos₁ pos₂ q : Pos} {s s₁ s₂ : Shared}

abbrev Run := List (Sem Value × Sem Value)
def item (q : Pos) (x : Int × Str) : Option (Sem Value) × Sem Value := (some (pr q x).1, (pr q x).2)

/-- what the display's loop and its flush are -/
structure Disp (F : Option (Sem Value) × Sem Value → Option Addr × Run → Sem (ForInStep (Option Addr × Run))) (fl : Run → Option Addr → Sem (Option Addr)) : Prop where
  go : ∀ k v m run, (run ++ [(k, v)]).length ≠ 17 → F (some k, v) (m, run) = pure (.yield (m, run ++ [(k, v)]))
  full : ∀ k v m run, (run ++ [(k, v)]).length = 17 → F (some k, v) (m, run) = (do let m ← fl (run ++ [(k, v)]) m; pure (.yield (m, [])))
  first : ∀ run, run ≠ [] → fl run none = (do let d ← subDict run; pure (some d))
  next : ∀ run d, run ≠ [] → ∃ R : Addr → Value → Sem Unit, fl run (some d) = (do
    let sub ← holding [.ref d] (subDict run)
    (holding [.ref d, .ref sub] (mergeMapping d (.ref sub) false)).onRaise (R sub)
    pure (some d))

variable {F : Option (Sem Value) × Sem Value → Option Addr × Run → Sem (ForInStep (Option Addr × Run))} {fl : Run → Option Addr → Sem (Option Addr)}

theorem ev_chunk (D : Disp F fl) {rest : List (Option (Sem Value) × Sem Value)} {m m' : Option Addr} {r : Option Addr × Run} (C : List (Int × Str)) : ∀ run : Run, C ≠ [] → run.length + C.length = 17 →
    Ev table p w n₀ ann b N₁ code below (fl (run ++ C.map (pr q)) m) q s m' q s₁ → Ev table p w n₀ ann b N₂ code below (forIn rest (m', []) F) q s₁ r q s₂ →
    Ev table p w n₀ ann b (N₁ + N₂) code below (forIn (C.map (item q) ++ rest) (m, run) F) q s r q s₂ := by
  induction C with
  | nil => intro _ h; exact absurd rfl h
  | cons x C ih =>
    intro run _ hl h1 h2
    rw [List.map_cons, List.cons_append, List.forIn_cons]
    simp only [List.length_cons] at hl
    by_cases hC : C = []
    · subst hC
      simp only [List.length_nil] at hl
      refine Ev.bind (N₁ := N₁) (N₂ := N₂) (pos₁ := q) (a := .yield (m', [])) (s₁ := s₁) ?_ (by simpa using h2)
      unfold item
      rw [D.full _ _ _ _ (by simp; omega)]
      exact Ev.bind (N₂ := 0) h1 Ev.pure
    · have hlC : 0 < C.length := List.length_pos_iff.mpr hC
      unfold item
      rw [D.go _ _ _ _ (by simp; omega)]
      refine Ev.mono (N₁ := 0 + (N₁ + N₂)) (Ev.bind (pos₁ := q) Ev.pure ?_) (by omega)
      exact ih (run ++ [pr q x]) hC (by simp; omega) (by simpa using h1) h2
theorem ev_tail (D : Disp F fl) {m : Option Addr} (C : List (Int × Str)) : ∀ run : Run, run.length + C.length < 17 →
    Ev table p w n₀ ann b 0 code below (forIn (C.map (item q)) (m, run) F) q s (m, run ++ C.map (pr q)) q s := by
  induction C with
  | nil => intro run _; rw [List.map_nil, List.map_nil, List.append_nil]; exact Ev.pure
  | cons x C ih =>
    intro run hl
    simp only [List.length_cons] at hl
    have e : F (item q x) (m, run) = pure (.yield (m, run ++ [pr q x])) := D.go _ _ _ _ (by simp; omega)
    rw [List.map_cons, List.forIn_cons, e]
    refine Ev.mono (N₁ := 0 + 0) (Ev.bind (pos₁ := q) Ev.pure ?_) (by omega)
    have := ih (run ++ [pr q x]) (by simp; omega)
    simpa using this

/-- all the long chunks' entries and objects -/
def entsAll (tk : Nat) : List (List (Int × Str)) → List DictEntry
  | [] => []
  | c :: r => ents tk c ++ entsAll (tk + 51) r
def subsAll (tk : Nat) : List (List (Int × Str)) → List Obj
  | [] => []
  | c :: r => dObj (ents tk c) 17 :: subsAll (tk + 51) r
theorem entsAll_hash (tk : Nat) (cs : List (List (Int × Str))) : (entsAll tk cs).map (·.hash) = cs.flatten.map (·.1) := by
  induction cs generalizing tk with
  | nil => rfl
  | cons c cs ih => simp only [entsAll, List.map_append, ih, ents_hash, List.flatten_cons]
theorem ents_keys (tk : Nat) (l : List (Int × Str)) : ∀ e ∈ ents tk l, ∃ k t v, e = ⟨k, .int k t, v⟩ := by
  induction l generalizing tk with
  | nil => intro e he; cases he
  | cons x l ih =>
    intro e he
    rcases List.mem_cons.mp he with rfl | he
    · exact ⟨_, _, _, rfl⟩
    · exact ih _ e he
theorem entsS_keys (tk : Nat) (l : List (Int × Str)) : ∀ e ∈ entsS tk l, ∃ k t v, e = ⟨k, .int k t, v⟩ := by
  induction l generalizing tk with
  | nil => intro e he; cases he
  | cons x l ih =>
    intro e he
    rcases List.mem_cons.mp he with rfl | he
    · exact ⟨_, _, _, rfl⟩
    · exact ih _ e he
theorem get_lastC (o o' : Obj) (ns : List Obj) : ((o :: ns) ++ [o'])[(o :: ns).length]? = some o' := get_last _ _

theorem ev_next (D : Disp F fl) {es es' : List DictEntry} {subs : List Obj} {tk n Ns : Nat} {run : Run} (hrun : run ≠ []) (hne : es ≠ [])
    (hsub : Ev table p w n₀ ann b Ns code below (subDict run) q (S s (dObj es n :: subs) tk) (s.heap.objs.size + (dObj es n :: subs).length) q (S s ((dObj es n :: subs) ++ [dObj es' es'.length]) (tk + 3 * es'.length)))
    (hr : Rise (es.map (·.hash) ++ es'.map (·.hash))) (hk : ∀ e ∈ es', ∃ k t v, e = ⟨k, .int k t, v⟩) (hlen : es.length + es'.length < 10000) (hn : n₀ ≤ s.heap.objs.size) (hs : 2 ≤ s.heap.objs.size) :
    Ev table p w n₀ ann b (Ns + (6 * es'.length + 6)) code below (fl run (some (s.heap.objs.size + 0))) q (S s (dObj es n :: subs) tk) (some (s.heap.objs.size + 0)) q
      (S s (dObj (es ++ es') (n + es'.length) :: (subs ++ [dObj es' es'.length])) (tk + 3 * es'.length)) := by
  obtain ⟨R, hR⟩ := D.next run (s.heap.objs.size + 0) hrun
  rw [hR]
  refine Ev.bind (pos₁ := q) (Ev.holding hsub) ?_
  refine Ev.bind (N₁ := 6 * es'.length + 6) (N₂ := 0) (pos₁ := q) (a := ()) ?_ Ev.pure
  have h := ev_merge (p := p) (w := w) (n₀ := n₀) (ann := ann) (b := b) (code := code) (below := below) (q := q) (s := s) (ns := (dObj es n :: subs) ++ [dObj es' es'.length]) (tk := tk + 3 * es'.length) (j := (dObj es n :: subs).length)
    (es := es) (es' := es') (n := n) rfl (get_lastC _ _ _) (by simp) hne hr hk hlen hn hs
  exact Ev.onRaise (Ev.holding h)

theorem ev_chunks (D : Disp F fl) {T : List (Int × Str)} (hT : T.length < 17) (hn : n₀ ≤ s.heap.objs.size) (hs : 2 ≤ s.heap.objs.size) : ∀ (cs : List (List (Int × Str))) (es : List DictEntry) (subs : List Obj) (tk n : Nat), (∀ c ∈ cs, c.length = 17) →
    es ≠ [] → Rise (es.map (·.hash) ++ cs.flatten.map (·.1)) → es.length + 17 * cs.length < 10000 →
    Ev table p w n₀ ann b (530 * cs.length) code below (forIn ((cs.flatten ++ T).map (item q)) (some (s.heap.objs.size + 0), []) F) q (S s (dObj es n :: subs) tk) (some (s.heap.objs.size + 0), T.map (pr q)) q
      (S s (dObj (es ++ entsAll tk cs) (n + 17 * cs.length) :: (subs ++ subsAll tk cs)) (tk + 51 * cs.length)) := by
  intro cs
  induction cs with
  | nil =>
    intro es subs tk n _ _ _ _
    simp only [List.flatten_nil, List.nil_append, entsAll, subsAll, List.append_nil, List.length_nil, Nat.mul_zero, Nat.add_zero]
    exact ev_tail D T [] (by simpa using hT)
  | cons c cs ih =>
    intro es subs tk n hc hne hr hlen
    have hc0 : c.length = 17 := hc c (List.mem_cons_self ..)
    simp only [List.length_cons] at hlen
    rw [List.flatten_cons, List.map_append] at hr
    have hrc : Rise (es.map (·.hash) ++ c.map (·.1)) := by rw [← List.append_assoc] at hr; exact hr.left
    rw [List.flatten_cons, List.append_assoc, List.map_append]
    refine Ev.mono (N₁ := (410 + 108) + 530 * cs.length) ?_ (by rw [List.length_cons]; omega)
    have hsub := ev_subLong (p := p) (w := w) (n₀ := n₀) (ann := ann) (b := b) (code := code) (below := below) (q := q) (s := s) (ns := dObj es n :: subs) (tk := tk) c (by omega) (by omega) hrc.right hn
    have hel : (ents tk c).length = 17 := by rw [ents_length, hc0]
    have hnx := ev_next (run := c.map (pr q)) (es := es) (es' := ents tk c) (subs := subs) (tk := tk) (n := n) (Ns := 410) (p := p) (w := w) (n₀ := n₀) (ann := ann) (b := b) (code := code) (below := below) (q := q) (s := s) D
      (by intro e; rw [List.map_eq_nil_iff] at e; rw [e] at hc0; cases hc0) hne (by rw [hel]; rw [hc0] at hsub; exact hsub) (by rw [ents_hash]; exact hrc) (ents_keys _ _) (by omega) hn hs
    rw [hel] at hnx
    refine ev_chunk D c [] (by intro e; rw [e] at hc0; cases hc0) (by simpa using hc0) (by simpa using hnx) ?_
    have h := ih (es ++ ents tk c) (subs ++ [dObj (ents tk c) 17]) (tk + 51) (n + 17) (fun d hd => hc d (List.mem_cons_of_mem _ hd)) (by simp [hne]) (by rw [List.map_append, ents_hash, List.append_assoc]; exact hr) (by rw [List.length_append, hel]; omega)
    simp only [List.append_assoc, List.singleton_append] at h
    rw [entsAll, subsAll, List.length_cons, show n + 17 * (cs.length + 1) = n + 17 + 17 * cs.length by omega, show tk + 51 * (cs.length + 1) = tk + 51 + 51 * cs.length by omega]
    exact h

theorem ev_core (D : Disp F fl) {G : Option Addr × Run → Sem Value} (hG : ∀ m run, ∃ H : Option Addr → Sem Value, G (m, run) = (fl run m >>= H) ∧ ∀ d, H (some d) = pure (.ref d))
    (C : List (Int × Str)) (cs : List (List (Int × Str))) (T : List (Int × Str)) (hC : C.length = 17) (hcs : ∀ c ∈ cs, c.length = 17) (hT : T.length ≤ 15) (hT0 : T ≠ []) (hr : Rise ((C ++ (cs.flatten ++ T)).map (·.1)))
    (hl : cs.length < 500) (hn : n₀ ≤ s.heap.objs.size) (hs : 2 ≤ s.heap.objs.size) (tk : Nat) :
    Ev table p w n₀ ann b (530 * cs.length + 2000) code below (forIn ((C ++ (cs.flatten ++ T)).map (item q)) (none, []) F >>= G) q (S s [] tk) (.ref (s.heap.objs.size + 0)) q
      (S s (dObj (ents tk C ++ entsAll (tk + 51) cs ++ entsS (tk + 51 + 51 * cs.length) T) (17 + 17 * cs.length + T.length) :: (subsAll (tk + 51) cs ++ [dObj (entsS (tk + 51 + 51 * cs.length) T) T.length])) (tk + 51 + 51 * cs.length + 3 * T.length)) := by
  have hel : (ents tk C).length = 17 := by rw [ents_length, hC]
  have hne : ents tk C ≠ [] := by intro e; rw [e] at hel; cases hel
  have hT17 : T.length < 17 := by omega
  rw [List.map_append, List.map_append] at hr
  have hrC : Rise (C.map (·.1)) := hr.left
  have hCn : C ≠ [] := by intro e; rw [e] at hC; cases hC
  refine Ev.mono (N₁ := ((410 + 0) + 530 * cs.length) + ((24 * T.length + 2 + (6 * T.length + 6)) + 0)) ?_ (by omega)
  refine Ev.bind (pos₁ := q) (a := (some (s.heap.objs.size + 0), T.map (pr q))) (s₁ := S s (dObj (ents tk C ++ entsAll (tk + 51) cs) (17 + 17 * cs.length) :: subsAll (tk + 51) cs) (tk + 51 + 51 * cs.length)) ?_ ?_
  · rw [List.map_append]
    refine ev_chunk D (m' := some (s.heap.objs.size + 0)) (s₁ := S s [dObj (ents tk C) 17] (tk + 51)) C [] hCn (by simpa using hC) ?_ ?_
    · rw [List.nil_append, D.first _ (by intro e; exact hCn (List.map_eq_nil_iff.mp e))]
      refine Ev.bind (pos₁ := q) (N₂ := 0) ?_ Ev.pure
      have h := ev_subLong (p := p) (w := w) (n₀ := n₀) (ann := ann) (b := b) (code := code) (below := below) (q := q) (s := s) (ns := []) (tk := tk) C (by omega) (by omega) hrC hn
      rw [hC] at h
      exact h
    · have h := ev_chunks (p := p) (w := w) (n₀ := n₀) (ann := ann) (b := b) (code := code) (below := below) (q := q) (s := s) D hT17 hn hs cs (ents tk C) [] (tk + 51) 17 hcs hne (by rw [ents_hash]; rw [← List.append_assoc] at hr; exact hr.left) (by rw [hel]; omega)
      simp only [List.nil_append] at h
      exact h
  · obtain ⟨H, hG, hH⟩ := hG (some (s.heap.objs.size + 0)) (T.map (pr q))
    rw [hG]
    have hTl : (entsS (tk + 51 + 51 * cs.length) T).length = T.length := entsS_length _ _
    have hEl : (entsAll (tk + 51) cs).length = 17 * cs.length := by
      have : ∀ (cs : List (List (Int × Str))) (t : Nat), (∀ c ∈ cs, c.length = 17) → (entsAll t cs).length = 17 * cs.length := by
        intro cs
        induction cs with
        | nil => intro t _; rfl
        | cons c cs ih => intro t h; rw [entsAll, List.length_append, ents_length, h c (List.mem_cons_self ..), ih _ (fun d hd => h d (List.mem_cons_of_mem _ hd)), List.length_cons]; omega
      exact this cs _ hcs
    have hrT : Rise (T.map (·.1)) := hr.right.right
    have hsub := ev_subShort (p := p) (w := w) (n₀ := n₀) (ann := ann) (b := b) (code := code) (below := below) (q := q) (s := s) (ns := dObj (ents tk C ++ entsAll (tk + 51) cs) (17 + 17 * cs.length) :: subsAll (tk + 51) cs) (tk := tk + 51 + 51 * cs.length) T hT hrT hn
    have h := ev_next (run := T.map (pr q)) (es := ents tk C ++ entsAll (tk + 51) cs) (es' := entsS (tk + 51 + 51 * cs.length) T) (subs := subsAll (tk + 51) cs) (tk := tk + 51 + 51 * cs.length) (n := 17 + 17 * cs.length) (p := p) (w := w) (n₀ := n₀) (ann := ann) (b := b) (code := code) (below := below) (q := q) (s := s) D
      (Ns := 24 * T.length + 2) (by intro e; exact hT0 (List.map_eq_nil_iff.mp e)) (by simp [hne]) (by rw [hTl]; exact hsub) (by rw [List.map_append, ents_hash, entsAll_hash, entsS_hash, List.append_assoc]; exact hr) (entsS_keys _ _) (by rw [List.length_append, hel, hEl, hTl]; omega) hn hs
    rw [hTl] at h
    refine Ev.bind (pos₁ := q) h ?_
    rw [hH]
    exact Ev.pure

theorem ev_display (C : List (Int × Str)) (cs : List (List (Int × Str))) (T : List (Int × Str)) (hC : C.length = 17) (hcs : ∀ c ∈ cs, c.length = 17) (hT : T.length ≤ 15) (hT0 : T ≠ []) (hr : Rise ((C ++ (cs.flatten ++ T)).map (·.1)))
    (hl : cs.length < 500) (hn : n₀ ≤ s.heap.objs.size) (hs : 2 ≤ s.heap.objs.size) (tk : Nat) :
    Ev table p w n₀ ann b (530 * cs.length + 2000) code below (dictDisplay ((C ++ (cs.flatten ++ T)).map (item q))) q (S s [] tk) (.ref (s.heap.objs.size + 0)) q
      (S s (dObj (ents tk C ++ entsAll (tk + 51) cs ++ entsS (tk + 51 + 51 * cs.length) T) (17 + 17 * cs.length + T.length) :: (subsAll (tk + 51) cs ++ [dObj (entsS (tk + 51 + 51 * cs.length) T) T.length])) (tk + 51 + 51 * cs.length + 3 * T.length)) := by
  unfold dictDisplay
  extract_lets flush main run
  refine ev_core (fl := flush) ⟨?_, ?_, ?_, ?_⟩ (fun m r => ⟨_, rfl, fun d => rfl⟩) C cs T hC hcs hT hT0 hr hl hn hs tk
  · intro k v m r h
    show (if ((r ++ [(k, v)]).length == 17) = true then _ else _) = _
    rw [if_neg (by simpa using h)]
  · intro k v m r h
    show (if ((r ++ [(k, v)]).length == 17) = true then _ else _) = _
    rw [if_pos (by simpa using h)]
  · intro r h
    show (if r.isEmpty = true then _ else _) = _
    rw [if_neg (by simpa using h)]
  · intro r d h
    exact ⟨_, if_neg (show ¬ (r.isEmpty = true) by simpa using h)⟩
end
end Mine

-- part H6
set_option Elab.async false
set_option maxRecDepth 100000
namespace Mine

/-- the written pairs of a display -/
def keyOf : Option PySem.Expr → Int
  | some (.Constant (.int n) _ _) => n
  | _ => 0
def textOf : PySem.Expr → Str
  | .Constant (.str x) _ _ => x
  | _ => ⟨#[]⟩
def keyWr : Option PySem.Expr → Bool
  | some (.Constant (.int _) _ _) => true
  | _ => false
def valWr : PySem.Expr → Bool
  | .Constant (.str _) _ _ => true
  | _ => false
def written : List (Option PySem.Expr) → List PySem.Expr → Bool
  | [], [] => true
  | k :: ks, v :: vs => keyWr k && valWr v && written ks vs
  | _, _ => false
theorem keyWr_is {k : Option PySem.Expr} (h : keyWr k = true) : ∃ n i j, k = some (.Constant (.int n) i j) := by
  unfold keyWr at h
  split at h
  · exact ⟨_, _, _, rfl⟩
  · cases h
theorem valWr_is {v : PySem.Expr} (h : valWr v = true) : ∃ n i j, v = .Constant (.str n) i j := by
  unfold valWr at h
  split at h
  · exact ⟨_, _, _, rfl⟩
  · cases h
def pairsOf : List (Option PySem.Expr) → List PySem.Expr → List (Int × Str)
  | k :: ks, v :: vs => (keyOf k, textOf v) :: pairsOf ks vs
  | _, _ => []
theorem items_eq (q : Pos) (env : Env) : ∀ ks vs, written ks vs = true → (evalEachOpt ks env).zip ((evalEach vs env).map fun v => do let x ← v; standAt q; pure x) = (pairsOf ks vs).map (item q)
  | [], [], _ => rfl
  | k :: ks, v :: vs, h => by
    have h' : (keyWr k && valWr v && written ks vs) = true := h
    rw [Bool.and_eq_true, Bool.and_eq_true] at h'
    obtain ⟨⟨hk, hv⟩, h⟩ := h'
    obtain ⟨n, i, j, rfl⟩ := keyWr_is hk
    obtain ⟨x, i', j', rfl⟩ := valWr_is hv
    have ih := items_eq q env ks vs h
    show (evalOpt (some (.Constant (.int n) i j)) env :: evalEachOpt ks env).zip (((eval (.Constant (.str x) i' j') env) :: evalEach vs env).map fun v => do let x ← v; standAt q; pure x) = item q (n, x) :: (pairsOf ks vs).map (item q)
    rw [List.map_cons, List.zip_cons_cons, ih]
    rfl
  | [], _ :: _, h => by cases h
  | _ :: _, [], h => by cases h

section
variable {p : Program} {w : World} {n₀ : Nat} {ann : Option Value} {b : Nat} {α : Type} {N N₁ N₂ : Nat} {code : Code} {below : List (Code × Pos)} {pos pos₁ pos₂ q : Pos} {s s₁ s₂ : Shared}

theorem ev_nsSet {x : Str} {v : Value} {o : Obj} {es : Array DictEntry} {n : Nat} (ho : s.heap.get? mainNs = some o) (hd : o.data = .dict es n) (hr : aRefKeyMayBeTheName x es = false) :
    Ev table p w n₀ ann b 4 code below (nsSet mainNs x v) pos s () pos { s with heap := s.heap.update mainNs (Obj.putName x (PyData.keyHash w.params x) (.str x s.toks) v), toks := s.toks + 1 } := by
  obtain ⟨c, d, dt, sl⟩ := o
  dsimp only at hd
  subst hd
  unfold nsSet
  refine Ev.ask (Ev.fresh (Ev.load (o := ⟨c, d, .dict es n, sl⟩) ho ?_))
  show Ev table p w n₀ ann b 1 code below (if aRefKeyMayBeTheName x es = true then _ else _) pos _ () pos _
  rw [if_neg (by rw [hr]; exact Bool.false_ne_true)]
  refine Ev.update (.inr rfl) (by show (s.heap.get? mainNs).isSome = true; rw [ho]; rfl) ?_
  exact Ev.pure

theorem ev_bindGlobal {env : Env} {x : Str} {v : Value} {o : Obj} {es : Array DictEntry} {n : Nat} (hk : env.kindOf x = some .local) (hm : env.scope.kind = .module) (hl : env.locals = mainNs) (hg : env.globals = mainNs)
    (ho : s.heap.get? mainNs = some o) (hd : o.data = .dict es n) (hr : aRefKeyMayBeTheName x es = false) :
    Ev table p w n₀ ann b 6 code below (bindName env x v) pos s () pos { s with heap := s.heap.update mainNs (Obj.putName x (PyData.keyHash w.params x) (.str x s.toks) v), toks := s.toks + 1 } := by
  unfold bindName
  rw [storeName_local hk (by rw [hm, hl, hg]; rfl), hl]
  refine Ev.bind (N₁ := 1) (N₂ := 5) (a := ()) (pos₁ := pos) (s₁ := s) (Ev.holding (Ev.point Ev.pure)) ?_
  exact Ev.bind (N₁ := 4) (N₂ := 1) (ev_nsSet ho hd hr) (Ev.point Ev.pure)

theorem ev_assignDict {env : Env} {x : Str} {npos dpos apos : Pos} {ks : List (Option PySem.Expr)} {vs : List PySem.Expr} {o : Obj} {es : Array DictEntry} {n : Nat} (hk : env.kindOf x = some .local) (hm : env.scope.kind = .module) (hl : env.locals = mainNs) (hg : env.globals = mainNs)
    (C : List (Int × Str)) (cs : List (List (Int × Str))) (T : List (Int × Str)) (hw : written ks vs = true) (hp : pairsOf ks vs = C ++ (cs.flatten ++ T)) (hC : C.length = 17) (hcs : ∀ c ∈ cs, c.length = 17) (hT : T.length ≤ 15) (hT0 : T ≠ [])
    (hr : Rise ((C ++ (cs.flatten ++ T)).map (·.1))) (hcl : cs.length < 500) (hn : n₀ ≤ s.heap.objs.size) (hs : 4 ≤ s.heap.objs.size)
    (ho : s.heap.get? mainNs = some o) (hd : o.data = .dict es n) (hra : aRefKeyMayBeTheName x es = false) :
    Ev table p w n₀ ann b (530 * cs.length + 2010) code below (execs [.Assign [.Name x npos] (.Dict ks vs dpos) apos] env) pos s .next npos
      { s with heap := ext (s.heap.update mainNs (Obj.putName x (PyData.keyHash w.params x) (.str x (s.toks + 51 + 51 * cs.length + 3 * T.length)) (.ref s.heap.objs.size))) (dObj (ents s.toks C ++ entsAll (s.toks + 51) cs ++ entsS (s.toks + 51 + 51 * cs.length) T) (17 + 17 * cs.length + T.length) :: (subsAll (s.toks + 51) cs ++ [dObj (entsS (s.toks + 51 + 51 * cs.length) T) T.length])), toks := s.toks + 51 + 51 * cs.length + 3 * T.length + 1 } := by
  rw [show execs [.Assign [.Name x npos] (.Dict ks vs dpos) apos] env = (do match ← exec (.Assign [.Name x npos] (.Dict ks vs dpos) apos) env with | .next => execs [] env | f => pure f) from rfl]
  refine Ev.bind (N₂ := 0) (pos₁ := npos) (a := .next) ?_ Ev.pure
  rw [exec_Assign_Name env x npos (.Dict ks vs dpos) apos rfl]
  have e0 : s = S s [] s.toks := by simp only [S]; rw [ext_nil]
  have hdisp := ev_display (p := p) (w := w) (n₀ := n₀) (ann := ann) (b := b) (code := code) (below := below) (q := dpos) (s := s) C cs T hC hcs hT hT0 hr hcl hn (by omega) s.toks
  rw [← e0] at hdisp
  generalize hNS : (dObj (ents s.toks C ++ entsAll (s.toks + 51) cs ++ entsS (s.toks + 51 + 51 * cs.length) T) (17 + 17 * cs.length + T.length) :: (subsAll (s.toks + 51) cs ++ [dObj (entsS (s.toks + 51 + 51 * cs.length) T) T.length])) = NS at hdisp ⊢
  generalize hTK : s.toks + 51 + 51 * cs.length + 3 * T.length = TK at hdisp ⊢
  have hev : Ev table p w n₀ ann b (530 * cs.length + 2000 + 1) code below (eval (.Dict ks vs dpos) env) apos s (.ref s.heap.objs.size) dpos (S s NS TK) := by
    rw [show eval (.Dict ks vs dpos) env = (do standAt dpos; dictDisplay ((evalEachOpt ks env).zip ((evalEach vs env).map fun v => do let x ← v; standAt dpos; pure x))) from rfl, items_eq dpos env ks vs hw, hp]
    exact Ev.at hdisp
  have hg3 : (S s NS TK).heap.get? mainNs = some o := by
    have hlt : mainNs < s.heap.objs.size := Nat.lt_of_lt_of_le (by decide : mainNs < 4) hs
    have he : (ext s.heap NS).objs[mainNs]? = s.heap.objs[mainNs]? := by
      simp only [ext]
      rw [Array.getElem?_append_left hlt]
    show (ext s.heap NS).get? mainNs = some o
    unfold Heap.get? at ho ⊢
    rw [he]; exact ho
  have hu : ((S s NS TK).heap.update mainNs (Obj.putName x (PyData.keyHash w.params x) (.str x TK) (.ref s.heap.objs.size))) = ext (s.heap.update mainNs (Obj.putName x (PyData.keyHash w.params x) (.str x TK) (.ref s.heap.objs.size))) NS := by
    have hlt : mainNs < s.heap.objs.size := Nat.lt_of_lt_of_le (by decide : mainNs < 4) hs
    simp only [S, ext, Heap.update, Heap.mk.injEq, and_true]
    apply Array.ext
    · simp
    · intro j h1 h2
      simp only [Array.getElem_modify, Array.getElem_append, Array.size_modify]
      by_cases hj : j < s.heap.objs.size
      · simp only [hj, dif_pos]
      · simp only [hj, dif_neg, not_false_eq_true]
        rw [if_neg (show ¬ (mainNs = j) from fun e => hj (e ▸ hlt))]
  refine Ev.mono (N₁ := 1 + ((530 * cs.length + 2000 + 1) + (1 + (6 + 0)))) ?_ (by omega)
  refine Ev.bind (a := ()) (N₁ := 1) (pos₁ := apos) (s₁ := s) (Ev.at Ev.pure) ?_
  refine Ev.bind (pos₁ := dpos) hev ?_
  refine Ev.bind (a := ()) (N₁ := 1) (pos₁ := npos) (Ev.at Ev.pure) ?_
  have hb := ev_bindGlobal (p := p) (w := w) (n₀ := n₀) (ann := ann) (b := b) (code := code) (below := below) (pos := npos) (s := S s NS TK) (env := env) (x := x) (v := .ref s.heap.objs.size) hk hm hl hg hg3 hd hra
  have he : ({ S s NS TK with heap := (S s NS TK).heap.update mainNs (Obj.putName x (PyData.keyHash w.params x) (.str x (S s NS TK).toks) (.ref s.heap.objs.size)), toks := (S s NS TK).toks + 1 } : Shared) =
      { s with heap := ext (s.heap.update mainNs (Obj.putName x (PyData.keyHash w.params x) (.str x TK) (.ref s.heap.objs.size))) NS, toks := TK + 1 } := by
    rw [← hu]; rfl
  rw [he] at hb
  exact Ev.bind hb Ev.pure

theorem piece_of_ev {l : List Stmt} {env : Env} {s' : Shared} {pos' : Pos} (h : Ev table p w n₀ ann 1 N code [(.builtin "claim.caller" {}, q)] (execs l env) pos s .next pos' s') :
    segRun treeTable p w n₀ ann 1 (N + 1) s (piecesOf l env code pos [topFrame q]) = some (.next, s', code, pos') := by
  rw [← table_eq_tree]
  obtain ⟨n, hn, e⟩ := h doneF deadEnd id id [topFrame q] rfl (Nat.le_refl _)
  rw [show N + 1 = n + ((N - n) + 1) by omega]
  refine seg_go e ?_
  rfl
end
end Mine

-- part H7
set_option Elab.async false
set_option maxRecDepth 100000
namespace Mine
/-- rising int keys: the linear test for keysApartInt -/
def riseD : Int → List (PyData × PyData) → Bool
  | _, [] => true
  | lo, e :: D => (match e.1 with
    | .int k => decide (lo ≤ k) && riseD (k + 1) D
    | _ => false)
theorem riseD_cons {lo : Int} {e : PyData × PyData} {D : List (PyData × PyData)} (h : riseD lo (e :: D) = true) : ∃ k v, e = (.int k, v) ∧ lo ≤ k ∧ riseD (k + 1) D = true := by
  obtain ⟨x, v⟩ := e
  unfold riseD at h
  dsimp only at h
  split at h
  · rw [Bool.and_eq_true, decide_eq_true_eq] at h
    exact ⟨_, v, rfl, h.1, h.2⟩
  · cases h
theorem riseD_miss : ∀ (D : List (PyData × PyData)) (lo k : Int), riseD lo D = true → k < lo → hasIntKey k D = false
  | [], _, _, _, _ => rfl
  | e :: D, lo, k, h, hk => by
    obtain ⟨j, v, rfl, h1, h2⟩ := riseD_cons h
    show ((j == k) || hasIntKey k D) = false
    rw [riseD_miss D (j + 1) k h2 (by omega), Bool.or_false]
    exact beq_eq_false_iff_ne.mpr (by omega)
theorem riseD_apart : ∀ (D : List (PyData × PyData)) (lo : Int), riseD lo D = true → keysApartInt D = true
  | [], _, _ => rfl
  | e :: D, lo, h => by
    obtain ⟨j, v, rfl, h1, h2⟩ := riseD_cons h
    show (!hasIntKey j D && keysApartInt D) = true
    rw [riseD_miss D (j + 1) j h2 (by omega), riseD_apart D _ h2]; rfl
theorem apart_eq : keysApartInt = fun D => riseD 0 D || keysApartInt D := by
  funext D
  cases h : riseD 0 D with
  | true => exact riseD_apart D 0 h
  | false => rfl
/-- the tables' test, its pairwise part turned to the linear one -/
noncomputable def fastT (p : Program) (h : Heap) : { b : Bool // tablesOk p h = b } := by
  refine ⟨?b, ?e⟩
  case e =>
    delta tablesOk Heap.tabIntOk
    rw [apart_eq]
theorem tablesOk_of {p : Program} {h : Heap} (x : (fastT p h).1 = true) : tablesOk p h = true := (fastT p h).2.trans x
theorem andT {a b : Bool} (x : a = true) (y : b = true) : (a && b) = true := by rw [x, y]; rfl
end Mine

-- part G1
set_option Elab.async false
set_option maxRecDepth 100000
set_option maxHeartbeats 0
namespace Mine
open_shared sh for PySem.Challenge.pw_nq0144_01 leaving 11
abbrev PW : Program := PySem.Challenge.pw_nq0144_01
def nowhere : Pos := ⟨0, 0, 0, 0⟩
def stm (i : Nat) : Stmt := PW.main.body.getD i (.Pass nowhere)
def stub : Stmt → Obj
  | .FunctionDef name params body _ _ _ scope _ _ _ => { cls := .none, data := .func { name := name, qualname := name, params := params, body := .stmts body, scope := scope, globals := 0, closure := [], defaults := .none, kwdefaults := .none } }
  | _ => default
def fobj (st : Stmt) (m c : Value) : Obj := match st with
  | .FunctionDef name params body _ _ _ scope _ _ _ => { cls := .type "function", data := .func { name := name, qualname := name, params := params, body := .stmts body, scope := scope, globals := 3, closure := [], defaults := .none, kwdefaults := .none, pyModule := m, code := c } }
  | _ => default
def dKeys : List (Option PySem.Expr) := match stm 24 with
  | .Assign _ (.Dict ks _ _) _ => ks
  | _ => []
def dVals : List PySem.Expr := match stm 24 with
  | .Assign _ (.Dict _ vs _) _ => vs
  | _ => []
def dAt : Pos := match stm 24 with
  | .Assign _ (.Dict _ _ q) _ => q
  | _ => nowhere
def aAt : Pos := match stm 24 with
  | .Assign _ _ q => q
  | _ => nowhere
def pairs : List (Int × Str) := pairsOf dKeys dVals
def chunks : Nat → List (Int × Str) → List (List (Int × Str))
  | 0, _ => []
  | n + 1, l => l.take 17 :: chunks n (l.drop 17)
def dC : List (Int × Str) := pairs.take 17
def dcs : List (List (Int × Str)) := chunks 37 (pairs.drop 17)
def dT : List (Int × Str) := pairs.drop 646
def dMain : Obj := dObj (ents 274 dC ++ entsAll 325 dcs ++ entsS 2212 dT) 650
def dSub (i : Nat) : Obj := (subsAll 325 dcs ++ [dObj (entsS 2212 dT) 4]).getD i default
def ob101 : Obj := { cls := (.type "tuple"), dict := none, data := (.seq #[] 0), slots := #[] }
def ob102 : Obj := { cls := .none, dict := none, data := (.fields #[]), slots := #[] }
def ob103 : Obj := { cls := (.type "tuple"), dict := none, data := (.seq #[(.str (Str.ofString "code") 2228), (.str (Str.ofString "r") 2229)] 0), slots := #[] }
def ob104 : Obj := { cls := (.type "tuple"), dict := none, data := (.seq #[] 0), slots := #[] }
def ob105 : Obj := stub (stm 25)
def ob106 : Obj := { cls := (.type "code"), dict := none, data := (.fields #[(.str (Str.ofString "map_table_b3") 2225), (.str (Str.ofString "map_table_b3") 2226), (.str (Str.ofString "/claim/cut.py") 2227), (.int (43) 0), (.int (1) 0), (.int (0) 0), (.int (0) 0), (.int (3) 0), (.ref 101), (.bool true), (.int (181) 0), (.ref 102), .none, (.ref 103), (.ref 104), (.ref 105), (.int (2230) 0), (.int (43) 0), (.str (Str.ofString "/claim/cut.py") 2231)]), slots := #[] }
def ob107 : Obj := fobj (stm 25) (.str (Str.ofString "cpy313.stringprep") 272) (.ref 106)
def ob108 : Obj := { cls := (.type "tuple"), dict := none, data := (.seq #[] 0), slots := #[] }
def ob109 : Obj := { cls := .none, dict := none, data := (.fields #[]), slots := #[] }
def ob110 : Obj := { cls := (.type "tuple"), dict := none, data := (.seq #[(.str (Str.ofString "sign") 2238), (.str (Str.ofString "form") 2239), (.str (Str.ofString "code") 2240)] 0), slots := #[] }
def ob111 : Obj := { cls := (.type "tuple"), dict := none, data := (.seq #[] 0), slots := #[] }
def ob112 : Obj := stub (stm 27)
def ob113 : Obj := { cls := (.type "code"), dict := none, data := (.fields #[(.str (Str.ofString "_law_laid") 2235), (.str (Str.ofString "_law_laid") 2236), (.str (Str.ofString "/claim/cut.py") 2237), (.int (49) 0), (.int (2) 0), (.int (0) 0), (.int (0) 0), (.int (3) 0), (.ref 108), (.bool true), (.int (181) 0), (.ref 109), .none, (.ref 110), (.ref 111), (.ref 112), (.int (2241) 0), (.int (49) 0), (.str (Str.ofString "/claim/cut.py") 2242)]), slots := #[] }
def ob114 : Obj := fobj (stm 27) (.str (Str.ofString "law_nq0144_01") 2233) (.ref 113)
def ob115 : Obj := { cls := (.type "tuple"), dict := none, data := (.seq #[] 0), slots := #[] }
def ob116 : Obj := { cls := .none, dict := none, data := (.fields #[]), slots := #[] }
def ob117 : Obj := stub (stm 28)
def ob118 : Obj := { cls := (.type "code"), dict := none, data := (.fields #[(.str (Str.ofString "_law_folded") 2244), (.str (Str.ofString "_law_folded") 2245), (.str (Str.ofString "/claim/cut.py") 2246), (.int (56) 0), (.int (2) 0), (.int (0) 0), (.int (0) 0), (.int (3) 0), (.ref 115), (.bool true), (.int (181) 0), (.ref 116), .none, .none, .none, (.ref 117), (.int (2247) 0), (.int (56) 0), (.str (Str.ofString "/claim/cut.py") 2248)]), slots := #[] }
def ob119 : Obj := fobj (stm 28) (.str (Str.ofString "law_nq0144_01") 2233) (.ref 118)
def ob120 : Obj := { cls := (.type "tuple"), dict := none, data := (.seq #[] 0), slots := #[] }
def ob121 : Obj := { cls := .none, dict := none, data := (.fields #[]), slots := #[] }
def ob122 : Obj := stub (stm 29)
def ob123 : Obj := { cls := (.type "code"), dict := none, data := (.fields #[(.str (Str.ofString "_law_heights") 2250), (.str (Str.ofString "_law_heights") 2251), (.str (Str.ofString "/claim/cut.py") 2252), (.int (66) 0), (.int (1) 0), (.int (0) 0), (.int (0) 0), (.int (3) 0), (.ref 120), (.bool true), (.int (181) 0), (.ref 121), .none, .none, .none, (.ref 122), (.int (2253) 0), (.int (66) 0), (.str (Str.ofString "/claim/cut.py") 2254)]), slots := #[] }
def ob124 : Obj := fobj (stm 29) (.str (Str.ofString "law_nq0144_01") 2233) (.ref 123)
def ob125 : Obj := { cls := (.type "tuple"), dict := none, data := (.seq #[] 0), slots := #[] }
def ob126 : Obj := { cls := .none, dict := none, data := (.fields #[]), slots := #[] }
def ob127 : Obj := { cls := (.type "tuple"), dict := none, data := (.seq #[(.str (Str.ofString "row") 2259), (.str (Str.ofString "signs") 2260), (.str (Str.ofString "mode") 2261), (.str (Str.ofString "k") 2262)] 0), slots := #[] }
def ob128 : Obj := { cls := (.type "tuple"), dict := none, data := (.seq #[] 0), slots := #[] }
def ob129 : Obj := stub (stm 30)
def ob130 : Obj := { cls := (.type "code"), dict := none, data := (.fields #[(.str (Str.ofString "_law_fits") 2256), (.str (Str.ofString "_law_fits") 2257), (.str (Str.ofString "/claim/cut.py") 2258), (.int (70) 0), (.int (3) 0), (.int (0) 0), (.int (0) 0), (.int (3) 0), (.ref 125), (.bool true), (.int (181) 0), (.ref 126), .none, (.ref 127), (.ref 128), (.ref 129), (.int (2263) 0), (.int (70) 0), (.str (Str.ofString "/claim/cut.py") 2264)]), slots := #[] }
def ob131 : Obj := fobj (stm 30) (.str (Str.ofString "law_nq0144_01") 2233) (.ref 130)
def ob132 : Obj := { cls := (.type "tuple"), dict := none, data := (.seq #[] 0), slots := #[] }
def ob133 : Obj := { cls := .none, dict := none, data := (.fields #[]), slots := #[] }
def ob134 : Obj := { cls := (.type "tuple"), dict := none, data := (.seq #[(.str (Str.ofString "one") 2269), (.str (Str.ofString "other") 2270), (.str (Str.ofString "k") 2271)] 0), slots := #[] }
def ob135 : Obj := { cls := (.type "tuple"), dict := none, data := (.seq #[] 0), slots := #[] }
def ob136 : Obj := stub (stm 31)
def ob137 : Obj := { cls := (.type "code"), dict := none, data := (.fields #[(.str (Str.ofString "_law_within") 2266), (.str (Str.ofString "_law_within") 2267), (.str (Str.ofString "/claim/cut.py") 2268), (.int (77) 0), (.int (2) 0), (.int (0) 0), (.int (0) 0), (.int (3) 0), (.ref 132), (.bool true), (.int (181) 0), (.ref 133), .none, (.ref 134), (.ref 135), (.ref 136), (.int (2272) 0), (.int (77) 0), (.str (Str.ofString "/claim/cut.py") 2273)]), slots := #[] }
def ob138 : Obj := fobj (stm 31) (.str (Str.ofString "law_nq0144_01") 2233) (.ref 137)
def ob139 : Obj := { cls := (.type "tuple"), dict := none, data := (.seq #[] 0), slots := #[] }
def ob140 : Obj := { cls := .none, dict := none, data := (.fields #[]), slots := #[] }
def ob141 : Obj := stub (stm 32)
def ob142 : Obj := { cls := (.type "code"), dict := none, data := (.fields #[(.str (Str.ofString "_law_shared") 2275), (.str (Str.ofString "_law_shared") 2276), (.str (Str.ofString "/claim/cut.py") 2277), (.int (83) 0), (.int (2) 0), (.int (0) 0), (.int (0) 0), (.int (3) 0), (.ref 139), (.bool true), (.int (181) 0), (.ref 140), .none, .none, .none, (.ref 141), (.int (2278) 0), (.int (83) 0), (.str (Str.ofString "/claim/cut.py") 2279)]), slots := #[] }
def ob143 : Obj := fobj (stm 32) (.str (Str.ofString "law_nq0144_01") 2233) (.ref 142)
def ob144 : Obj := { cls := (.type "tuple"), dict := none, data := (.seq #[] 0), slots := #[] }
def ob145 : Obj := { cls := .none, dict := none, data := (.fields #[]), slots := #[] }
def ob146 : Obj := stub (stm 33)
def ob147 : Obj := { cls := (.type "code"), dict := none, data := (.fields #[(.str (Str.ofString "_law_due") 2281), (.str (Str.ofString "_law_due") 2282), (.str (Str.ofString "/claim/cut.py") 2283), (.int (89) 0), (.int (3) 0), (.int (0) 0), (.int (0) 0), (.int (3) 0), (.ref 144), (.bool true), (.int (181) 0), (.ref 145), .none, .none, .none, (.ref 146), (.int (2284) 0), (.int (89) 0), (.str (Str.ofString "/claim/cut.py") 2285)]), slots := #[] }
def ob148 : Obj := fobj (stm 33) (.str (Str.ofString "law_nq0144_01") 2233) (.ref 147)
def ob149 : Obj := { cls := (.type "tuple"), dict := none, data := (.seq #[] 0), slots := #[] }
def ob150 : Obj := { cls := .none, dict := none, data := (.fields #[]), slots := #[] }
def ob151 : Obj := stub (stm 34)
def ob152 : Obj := { cls := (.type "code"), dict := none, data := (.fields #[(.str (Str.ofString "law") 2287), (.str (Str.ofString "law") 2288), (.str (Str.ofString "/claim/cut.py") 2289), (.int (96) 0), (.int (1) 0), (.int (0) 0), (.int (0) 0), (.int (3) 0), (.ref 149), (.bool true), (.int (181) 0), (.ref 150), .none, .none, .none, (.ref 151), (.int (2290) 0), (.int (96) 0), (.str (Str.ofString "/claim/cut.py") 2291)]), slots := #[] }
def ob153 : Obj := fobj (stm 34) (.str (Str.ofString "law_nq0144_01") 2233) (.ref 152)
def gfin (P : Params) : Obj := { cls := (.type "dict"), dict := none, data := (.dict #[⟨PyData.keyHash P (Str.ofString "__name__"), (.str (Str.ofString "__name__") 165), (.str (Str.ofString "law_nq0144_01") 2233)⟩, ⟨PyData.keyHash P (Str.ofString "__doc__"), (.str (Str.ofString "__doc__") 166), .none⟩, ⟨PyData.keyHash P (Str.ofString "__package__"), (.str (Str.ofString "__package__") 167), .none⟩, ⟨PyData.keyHash P (Str.ofString "__loader__"), (.str (Str.ofString "__loader__") 168), (.builtin "__main__.__loader__#opaque")⟩, ⟨PyData.keyHash P (Str.ofString "__spec__"), (.str (Str.ofString "__spec__") 169), .none⟩, ⟨PyData.keyHash P (Str.ofString "__annotations__"), (.str (Str.ofString "__annotations__") 170), (.ref 6)⟩, ⟨PyData.keyHash P (Str.ofString "__builtins__"), (.str (Str.ofString "__builtins__") 171), (.ref 4)⟩, ⟨PyData.keyHash P (Str.ofString "__file__"), (.str (Str.ofString "__file__") 173), (.str (Str.ofString "/claim/cut.py") 172)⟩, ⟨PyData.keyHash P (Str.ofString "__cached__"), (.str (Str.ofString "__cached__") 174), .none⟩, ⟨PyData.keyHash P (Str.ofString "S_IFMT"), (.str (Str.ofString "S_IFMT") 195), (.ref 21)⟩, ⟨PyData.keyHash P (Str.ofString "S_IFDIR"), (.str (Str.ofString "S_IFDIR") 197), (.int (16384) 196)⟩, ⟨PyData.keyHash P (Str.ofString "S_IFCHR"), (.str (Str.ofString "S_IFCHR") 199), (.int (8192) 198)⟩, ⟨PyData.keyHash P (Str.ofString "S_IFBLK"), (.str (Str.ofString "S_IFBLK") 201), (.int (24576) 200)⟩, ⟨PyData.keyHash P (Str.ofString "S_IFREG"), (.str (Str.ofString "S_IFREG") 203), (.int (32768) 202)⟩, ⟨PyData.keyHash P (Str.ofString "S_IFIFO"), (.str (Str.ofString "S_IFIFO") 205), (.int (4096) 204)⟩, ⟨PyData.keyHash P (Str.ofString "S_IFLNK"), (.str (Str.ofString "S_IFLNK") 207), (.int (40960) 206)⟩, ⟨PyData.keyHash P (Str.ofString "S_IFSOCK"), (.str (Str.ofString "S_IFSOCK") 209), (.int (49152) 208)⟩, ⟨PyData.keyHash P (Str.ofString "S_ISUID"), (.str (Str.ofString "S_ISUID") 211), (.int (2048) 210)⟩, ⟨PyData.keyHash P (Str.ofString "S_ISGID"), (.str (Str.ofString "S_ISGID") 213), (.int (1024) 212)⟩, ⟨PyData.keyHash P (Str.ofString "S_ISVTX"), (.str (Str.ofString "S_ISVTX") 215), (.int (512) 214)⟩, ⟨PyData.keyHash P (Str.ofString "S_IRUSR"), (.str (Str.ofString "S_IRUSR") 217), (.int (256) 216)⟩, ⟨PyData.keyHash P (Str.ofString "S_IWUSR"), (.str (Str.ofString "S_IWUSR") 219), (.int (128) 218)⟩, ⟨PyData.keyHash P (Str.ofString "S_IXUSR"), (.str (Str.ofString "S_IXUSR") 221), (.int (64) 220)⟩, ⟨PyData.keyHash P (Str.ofString "S_IRGRP"), (.str (Str.ofString "S_IRGRP") 223), (.int (32) 222)⟩, ⟨PyData.keyHash P (Str.ofString "S_IWGRP"), (.str (Str.ofString "S_IWGRP") 225), (.int (16) 224)⟩, ⟨PyData.keyHash P (Str.ofString "S_IXGRP"), (.str (Str.ofString "S_IXGRP") 227), (.int (8) 226)⟩, ⟨PyData.keyHash P (Str.ofString "S_IROTH"), (.str (Str.ofString "S_IROTH") 229), (.int (4) 228)⟩, ⟨PyData.keyHash P (Str.ofString "S_IWOTH"), (.str (Str.ofString "S_IWOTH") 231), (.int (2) 230)⟩, ⟨PyData.keyHash P (Str.ofString "S_IXOTH"), (.str (Str.ofString "S_IXOTH") 233), (.int (1) 232)⟩, ⟨PyData.keyHash P (Str.ofString "_filemode_table"), (.str (Str.ofString "_filemode_table") 259), (.ref 54)⟩, ⟨PyData.keyHash P (Str.ofString "filemode"), (.str (Str.ofString "filemode") 271), (.ref 61)⟩, ⟨PyData.keyHash P (Str.ofString "b3_exceptions"), (.str (Str.ofString "b3_exceptions") 2224), (.ref 62)⟩, ⟨PyData.keyHash P (Str.ofString "map_table_b3"), (.str (Str.ofString "map_table_b3") 2232), (.ref 107)⟩, ⟨PyData.keyHash P (Str.ofString "_law_laid"), (.str (Str.ofString "_law_laid") 2243), (.ref 114)⟩, ⟨PyData.keyHash P (Str.ofString "_law_folded"), (.str (Str.ofString "_law_folded") 2249), (.ref 119)⟩, ⟨PyData.keyHash P (Str.ofString "_law_heights"), (.str (Str.ofString "_law_heights") 2255), (.ref 124)⟩, ⟨PyData.keyHash P (Str.ofString "_law_fits"), (.str (Str.ofString "_law_fits") 2265), (.ref 131)⟩, ⟨PyData.keyHash P (Str.ofString "_law_within"), (.str (Str.ofString "_law_within") 2274), (.ref 138)⟩, ⟨PyData.keyHash P (Str.ofString "_law_shared"), (.str (Str.ofString "_law_shared") 2280), (.ref 143)⟩, ⟨PyData.keyHash P (Str.ofString "_law_due"), (.str (Str.ofString "_law_due") 2286), (.ref 148)⟩, ⟨PyData.keyHash P (Str.ofString "law"), (.str (Str.ofString "law") 2292), (.ref 153)⟩] 41), slots := #[] }
def g25 (P : Params) : Obj := { cls := (.type "dict"), dict := none, data := (.dict #[⟨PyData.keyHash P (Str.ofString "__name__"), (.str (Str.ofString "__name__") 165), (.str (Str.ofString "cpy313.stringprep") 272)⟩, ⟨PyData.keyHash P (Str.ofString "__doc__"), (.str (Str.ofString "__doc__") 166), .none⟩, ⟨PyData.keyHash P (Str.ofString "__package__"), (.str (Str.ofString "__package__") 167), .none⟩, ⟨PyData.keyHash P (Str.ofString "__loader__"), (.str (Str.ofString "__loader__") 168), (.builtin "__main__.__loader__#opaque")⟩, ⟨PyData.keyHash P (Str.ofString "__spec__"), (.str (Str.ofString "__spec__") 169), .none⟩, ⟨PyData.keyHash P (Str.ofString "__annotations__"), (.str (Str.ofString "__annotations__") 170), (.ref 6)⟩, ⟨PyData.keyHash P (Str.ofString "__builtins__"), (.str (Str.ofString "__builtins__") 171), (.ref 4)⟩, ⟨PyData.keyHash P (Str.ofString "__file__"), (.str (Str.ofString "__file__") 173), (.str (Str.ofString "/claim/cut.py") 172)⟩, ⟨PyData.keyHash P (Str.ofString "__cached__"), (.str (Str.ofString "__cached__") 174), .none⟩, ⟨PyData.keyHash P (Str.ofString "S_IFMT"), (.str (Str.ofString "S_IFMT") 195), (.ref 21)⟩, ⟨PyData.keyHash P (Str.ofString "S_IFDIR"), (.str (Str.ofString "S_IFDIR") 197), (.int (16384) 196)⟩, ⟨PyData.keyHash P (Str.ofString "S_IFCHR"), (.str (Str.ofString "S_IFCHR") 199), (.int (8192) 198)⟩, ⟨PyData.keyHash P (Str.ofString "S_IFBLK"), (.str (Str.ofString "S_IFBLK") 201), (.int (24576) 200)⟩, ⟨PyData.keyHash P (Str.ofString "S_IFREG"), (.str (Str.ofString "S_IFREG") 203), (.int (32768) 202)⟩, ⟨PyData.keyHash P (Str.ofString "S_IFIFO"), (.str (Str.ofString "S_IFIFO") 205), (.int (4096) 204)⟩, ⟨PyData.keyHash P (Str.ofString "S_IFLNK"), (.str (Str.ofString "S_IFLNK") 207), (.int (40960) 206)⟩, ⟨PyData.keyHash P (Str.ofString "S_IFSOCK"), (.str (Str.ofString "S_IFSOCK") 209), (.int (49152) 208)⟩, ⟨PyData.keyHash P (Str.ofString "S_ISUID"), (.str (Str.ofString "S_ISUID") 211), (.int (2048) 210)⟩, ⟨PyData.keyHash P (Str.ofString "S_ISGID"), (.str (Str.ofString "S_ISGID") 213), (.int (1024) 212)⟩, ⟨PyData.keyHash P (Str.ofString "S_ISVTX"), (.str (Str.ofString "S_ISVTX") 215), (.int (512) 214)⟩, ⟨PyData.keyHash P (Str.ofString "S_IRUSR"), (.str (Str.ofString "S_IRUSR") 217), (.int (256) 216)⟩, ⟨PyData.keyHash P (Str.ofString "S_IWUSR"), (.str (Str.ofString "S_IWUSR") 219), (.int (128) 218)⟩, ⟨PyData.keyHash P (Str.ofString "S_IXUSR"), (.str (Str.ofString "S_IXUSR") 221), (.int (64) 220)⟩, ⟨PyData.keyHash P (Str.ofString "S_IRGRP"), (.str (Str.ofString "S_IRGRP") 223), (.int (32) 222)⟩, ⟨PyData.keyHash P (Str.ofString "S_IWGRP"), (.str (Str.ofString "S_IWGRP") 225), (.int (16) 224)⟩, ⟨PyData.keyHash P (Str.ofString "S_IXGRP"), (.str (Str.ofString "S_IXGRP") 227), (.int (8) 226)⟩, ⟨PyData.keyHash P (Str.ofString "S_IROTH"), (.str (Str.ofString "S_IROTH") 229), (.int (4) 228)⟩, ⟨PyData.keyHash P (Str.ofString "S_IWOTH"), (.str (Str.ofString "S_IWOTH") 231), (.int (2) 230)⟩, ⟨PyData.keyHash P (Str.ofString "S_IXOTH"), (.str (Str.ofString "S_IXOTH") 233), (.int (1) 232)⟩, ⟨PyData.keyHash P (Str.ofString "_filemode_table"), (.str (Str.ofString "_filemode_table") 259), (.ref 54)⟩, ⟨PyData.keyHash P (Str.ofString "filemode"), (.str (Str.ofString "filemode") 271), (.ref 61)⟩, ⟨PyData.keyHash P (Str.ofString "b3_exceptions"), (.str (Str.ofString "b3_exceptions") 2224), (.ref 62)⟩] 32), slots := #[] }
def c12 : Obj := { cls := .none, dict := none, data := (.fields #[(.int (2) 0), (.int (0) 0), (.ref 20), (.int (24) 0), (.int (0) 0), (.ref 60), (.int (43) 0), (.int (0) 0), (.ref 106), (.int (49) 0), (.int (0) 0), (.ref 113), (.int (56) 0), (.int (0) 0), (.ref 118), (.int (66) 0), (.int (0) 0), (.ref 123), (.int (70) 0), (.int (0) 0), (.ref 130), (.int (77) 0), (.int (0) 0), (.ref 137), (.int (83) 0), (.int (0) 0), (.ref 142), (.int (89) 0), (.int (0) 0), (.ref 147), (.int (96) 0), (.int (0) 0), (.ref 152)]), slots := #[] }
noncomputable def T25 (P : Params) : BT := (.node (boot_o_0 P) (.node (boot_o_1 P) (.node (g25 P) (.node (boot_o_7 P) (.node (sh.o_7 P) (.node (sh.o_23 P) (.node (dSub 0) .nil .nil) (.node (dSub 32) .nil .nil)) (.node (sh.o_39 P) (.node (dSub 16) .nil .nil) .nil)) (.node (sh.o_15 P) (.node (sh.o_31 P) (.node (dSub 8) .nil .nil) .nil) (.node (sh.o_50 P) (.node (dSub 24) .nil .nil) .nil))) (.node (sh.o_1 P) (.node (sh.o_11 P) (.node (sh.o_27 P) (.node (dSub 4) .nil .nil) (.node (dSub 36) .nil .nil)) (.node (sh.o_43 P) (.node (dSub 20) .nil .nil) .nil)) (.node (sh.o_19 P) (.node (sh.o_35 P) (.node (dSub 12) .nil .nil) .nil) (.node (sh.o_54 P) (.node (dSub 28) .nil .nil) .nil)))) (.node (boot_o_5 P) (.node (boot_o_9 P) (.node (sh.o_9 P) (.node (sh.o_25 P) (.node (dSub 2) .nil .nil) (.node (dSub 34) .nil .nil)) (.node (sh.o_41 P) (.node (dSub 18) .nil .nil) .nil)) (.node (sh.o_17 P) (.node (sh.o_33 P) (.node (dSub 10) .nil .nil) .nil) (.node (sh.o_52 P) (.node (dSub 26) .nil .nil) .nil))) (.node (sh.o_3 P) (.node (sh.o_13 P) (.node (sh.o_29 P) (.node (dSub 6) .nil .nil) .nil) (.node (sh.o_45 P) (.node (dSub 22) .nil .nil) .nil)) (.node (sh.o_21 P) (.node (sh.o_37 P) (.node (dSub 14) .nil .nil) .nil) (.node (sh.o_56 P) (.node (dSub 30) .nil .nil) .nil))))) (.node (boot_o_2 P) (.node (boot_o_4 P) (.node (boot_o_8 P) (.node (sh.o_8 P) (.node (sh.o_24 P) (.node (dSub 1) .nil .nil) (.node (dSub 33) .nil .nil)) (.node (sh.o_40 P) (.node (dSub 17) .nil .nil) .nil)) (.node (sh.o_16 P) (.node (sh.o_32 P) (.node (dSub 9) .nil .nil) .nil) (.node (sh.o_51 P) (.node (dSub 25) .nil .nil) .nil))) (.node (sh.o_49 P) (.node (sh.o_12 P) (.node (sh.o_28 P) (.node (dSub 5) .nil .nil) (.node (dSub 37) .nil .nil)) (.node (sh.o_44 P) (.node (dSub 21) .nil .nil) .nil)) (.node (sh.o_20 P) (.node (sh.o_36 P) (.node (dSub 13) .nil .nil) .nil) (.node (sh.o_55 P) (.node (dSub 29) .nil .nil) .nil)))) (.node (boot_o_6 P) (.node (boot_o_10 P) (.node (sh.o_10 P) (.node (sh.o_26 P) (.node (dSub 3) .nil .nil) (.node (dSub 35) .nil .nil)) (.node (sh.o_42 P) (.node (dSub 19) .nil .nil) .nil)) (.node (sh.o_18 P) (.node (sh.o_34 P) (.node (dSub 11) .nil .nil) .nil) (.node (sh.o_53 P) (.node (dSub 27) .nil .nil) .nil))) (.node (sh.o_4 P) (.node (sh.o_14 P) (.node (sh.o_30 P) (.node (dSub 7) .nil .nil) .nil) (.node (sh.o_46 P) (.node (dSub 23) .nil .nil) .nil)) (.node (sh.o_22 P) (.node (sh.o_38 P) (.node (dSub 15) .nil .nil) .nil) (.node dMain (.node (dSub 31) .nil .nil) .nil))))))
noncomputable def Tf (P : Params) : BT := (.node (boot_o_0 P) (.node (boot_o_1 P) (.node (gfin P) (.node (boot_o_7 P) (.node (sh.o_7 P) (.node (sh.o_23 P) (.node (dSub 0) (.node ob127 .nil .nil) .nil) (.node (dSub 32) .nil .nil)) (.node (sh.o_39 P) (.node (dSub 16) (.node ob143 .nil .nil) .nil) (.node ob111 .nil .nil))) (.node (sh.o_15 P) (.node (sh.o_31 P) (.node (dSub 8) (.node ob135 .nil .nil) .nil) (.node ob103 .nil .nil)) (.node (sh.o_50 P) (.node (dSub 24) (.node ob151 .nil .nil) .nil) (.node ob119 .nil .nil)))) (.node (sh.o_1 P) (.node (sh.o_11 P) (.node (sh.o_27 P) (.node (dSub 4) (.node ob131 .nil .nil) .nil) (.node (dSub 36) .nil .nil)) (.node (sh.o_43 P) (.node (dSub 20) (.node ob147 .nil .nil) .nil) (.node ob115 .nil .nil))) (.node (sh.o_19 P) (.node (sh.o_35 P) (.node (dSub 12) (.node ob139 .nil .nil) .nil) (.node ob107 .nil .nil)) (.node (sh.o_54 P) (.node (dSub 28) .nil .nil) (.node ob123 .nil .nil))))) (.node (boot_o_5 P) (.node (boot_o_9 P) (.node (sh.o_9 P) (.node (sh.o_25 P) (.node (dSub 2) (.node ob129 .nil .nil) .nil) (.node (dSub 34) .nil .nil)) (.node (sh.o_41 P) (.node (dSub 18) (.node ob145 .nil .nil) .nil) (.node ob113 .nil .nil))) (.node (sh.o_17 P) (.node (sh.o_33 P) (.node (dSub 10) (.node ob137 .nil .nil) .nil) (.node ob105 .nil .nil)) (.node (sh.o_52 P) (.node (dSub 26) (.node ob153 .nil .nil) .nil) (.node ob121 .nil .nil)))) (.node (sh.o_3 P) (.node (sh.o_13 P) (.node (sh.o_29 P) (.node (dSub 6) (.node ob133 .nil .nil) .nil) (.node ob101 .nil .nil)) (.node (sh.o_45 P) (.node (dSub 22) (.node ob149 .nil .nil) .nil) (.node ob117 .nil .nil))) (.node (sh.o_21 P) (.node (sh.o_37 P) (.node (dSub 14) (.node ob141 .nil .nil) .nil) (.node ob109 .nil .nil)) (.node (sh.o_56 P) (.node (dSub 30) .nil .nil) (.node ob125 .nil .nil)))))) (.node (boot_o_2 P) (.node (boot_o_4 P) (.node (boot_o_8 P) (.node (sh.o_8 P) (.node (sh.o_24 P) (.node (dSub 1) (.node ob128 .nil .nil) .nil) (.node (dSub 33) .nil .nil)) (.node (sh.o_40 P) (.node (dSub 17) (.node ob144 .nil .nil) .nil) (.node ob112 .nil .nil))) (.node (sh.o_16 P) (.node (sh.o_32 P) (.node (dSub 9) (.node ob136 .nil .nil) .nil) (.node ob104 .nil .nil)) (.node (sh.o_51 P) (.node (dSub 25) (.node ob152 .nil .nil) .nil) (.node ob120 .nil .nil)))) (.node c12 (.node (sh.o_12 P) (.node (sh.o_28 P) (.node (dSub 5) (.node ob132 .nil .nil) .nil) (.node (dSub 37) .nil .nil)) (.node (sh.o_44 P) (.node (dSub 21) (.node ob148 .nil .nil) .nil) (.node ob116 .nil .nil))) (.node (sh.o_20 P) (.node (sh.o_36 P) (.node (dSub 13) (.node ob140 .nil .nil) .nil) (.node ob108 .nil .nil)) (.node (sh.o_55 P) (.node (dSub 29) .nil .nil) (.node ob124 .nil .nil))))) (.node (boot_o_6 P) (.node (boot_o_10 P) (.node (sh.o_10 P) (.node (sh.o_26 P) (.node (dSub 3) (.node ob130 .nil .nil) .nil) (.node (dSub 35) .nil .nil)) (.node (sh.o_42 P) (.node (dSub 19) (.node ob146 .nil .nil) .nil) (.node ob114 .nil .nil))) (.node (sh.o_18 P) (.node (sh.o_34 P) (.node (dSub 11) (.node ob138 .nil .nil) .nil) (.node ob106 .nil .nil)) (.node (sh.o_53 P) (.node (dSub 27) .nil .nil) (.node ob122 .nil .nil)))) (.node (sh.o_4 P) (.node (sh.o_14 P) (.node (sh.o_30 P) (.node (dSub 7) (.node ob134 .nil .nil) .nil) (.node ob102 .nil .nil)) (.node (sh.o_46 P) (.node (dSub 23) (.node ob150 .nil .nil) .nil) (.node ob118 .nil .nil))) (.node (sh.o_22 P) (.node (sh.o_38 P) (.node (dSub 15) (.node ob142 .nil .nil) .nil) (.node ob110 .nil .nil)) (.node dMain (.node (dSub 31) .nil .nil) (.node ob126 .nil .nil)))))))
theorem stm24 : stm 24 = .Assign [.Name (Str.ofString "b3_exceptions") ⟨42, 0, 42, 13⟩] (.Dict dKeys dVals dAt) aAt := by kernel_rfl
theorem dWritten : written dKeys dVals = true := by decide +kernel
theorem dSplit : pairsOf dKeys dVals = dC ++ (dcs.flatten ++ dT) := by kernel_rfl
theorem dC17 : dC.length = 17 := by kernel_rfl
theorem dcs17 : ∀ c ∈ dcs, c.length = 17 := by
  have h : (dcs.all fun c => c.length == 17) = true := by decide +kernel
  intro c hc
  exact beq_iff_eq.mp (List.all_eq_true.mp h c hc)
theorem dcs37 : dcs.length = 37 := by kernel_rfl
theorem dT4 : dT.length = 4 := by kernel_rfl
theorem dRise : Rise ((dC ++ (dcs.flatten ++ dT)).map (·.1)) := by
  rw [← dSplit]
  exact (rise_of 0 (Int.le_refl 0) _ (by decide +kernel)).1

noncomputable def S24 (w : World) (os : OsState) : SharedT := { tree := sh.tree_56 w.params, n := 62, life := { }, gens := { toList := [] }, drawn := { }, toks := 274, os := os }
noncomputable def S25 (w : World) (os : OsState) : SharedT := { tree := T25 w.params, n := 101, life := { }, gens := { toList := [] }, drawn := { }, toks := 2225, os := os }
noncomputable def Sf (w : World) (os : OsState) : SharedT := { tree := Tf w.params, n := 154, life := { }, gens := { toList := [] }, drawn := { }, toks := 2293, os := os }

theorem size24 (w : World) (os : OsState) : (S24 w os).abs.heap.objs.size = 62 := absHeap_size _ _ _
theorem get24 (w : World) (os : OsState) : (S24 w os).abs.heap.get? mainNs = some (sh.o_48 w.params) := by kernel_rfl
theorem data24 (P : Params) : ∃ es n, (sh.o_48 P).data = .dict es n ∧ aRefKeyMayBeTheName (Str.ofString "b3_exceptions") es = false := ⟨_, _, rfl, by kernel_rfl⟩
end Mine

-- part G2
set_option Elab.async false
set_option maxRecDepth 100000
set_option maxHeartbeats 0
namespace Mine
/-- the objects of the display -/
noncomputable def dObjs : List Obj := dMain :: (subsAll 325 dcs ++ [dObj (entsS 2212 dT) 4])
theorem heap25 (w : World) (os : OsState) : ext ((S24 w os).abs.heap.update mainNs (Obj.putName (Str.ofString "b3_exceptions") (PyData.keyHash w.params (Str.ofString "b3_exceptions")) (.str (Str.ofString "b3_exceptions") 2224) (.ref 62))) dObjs = (S25 w os).abs.heap := by
  kernel_rfl
theorem run24 (p : Program) (b : List Stmt) (w : World) (os : OsState) : segRun treeTable p w 11 (some (.ref 6)) 1 21621 (S24 w os).abs (piecesOf [stm 24] sh.env_1 (Code.body b sh.env_1) ⟨41, 0, 41, 8⟩ [topFrame ⟨0, 0, 0, 0⟩]) =
    some (.next, (S25 w os).abs, Code.body b sh.env_1, ⟨42, 0, 42, 13⟩) := by
  obtain ⟨es, n, hd, hra⟩ := data24 w.params
  have h := piece_of_ev (q := ⟨0, 0, 0, 0⟩) (ev_assignDict (p := p) (w := w) (n₀ := 11) (ann := some (.ref 6)) (b := 1) (code := Code.body b sh.env_1) (below := [(.builtin "claim.caller" {}, ⟨0, 0, 0, 0⟩)]) (pos := ⟨41, 0, 41, 8⟩) (s := (S24 w os).abs)
    (env := sh.env_1) (x := Str.ofString "b3_exceptions") (npos := ⟨42, 0, 42, 13⟩) (dpos := dAt) (apos := aAt) (by kernel_rfl) (by kernel_rfl) (by kernel_rfl) (by kernel_rfl) dC dcs dT dWritten dSplit dC17 dcs17 (by rw [dT4]; decide) (by intro e; have := dT4; rw [e] at this; cases this) dRise (by rw [dcs37]; decide)
    (by rw [size24]; decide) (by rw [size24]; decide) (get24 w os) hd hra)
  rw [size24, dcs37, dT4] at h
  rw [stm24]
  refine h.trans ?_
  have hh := heap25 w os
  simp only [Option.some.injEq, Prod.mk.injEq, true_and, and_true]
  show (Shared.mk _ _ _ _ _) = Shared.mk (S25 w os).abs.heap _ _ _ _
  rw [← hh]
  rfl
end Mine

-- part G3
set_option Elab.async false
set_option maxRecDepth 100000
set_option maxHeartbeats 0
namespace Mine
def sufx : List Stmt := PW.main.body.drop 25
theorem run25 (p : Program) (b : List Stmt) (w : World) (os : OsState) : segRunT treeTable p w 11 (some (.ref 6)) 1 264 (S25 w os) (piecesOf sufx sh.env_1 (Code.body b sh.env_1) ⟨42, 0, 42, 13⟩ [topFrame ⟨0, 0, 0, 0⟩]) =
    some (.next, Sf w os, Code.body b sh.env_1, ⟨96, 0, 116, 15⟩) := by
  kernel_rfl
end Mine

-- part G4
set_option Elab.async false
set_option maxRecDepth 100000
set_option maxHeartbeats 0
namespace Mine
noncomputable def KF (P : Params) : Frag := (nat_lit 3, (gfin P)) :: (nat_lit 11, (sh.o_1 P)) :: (nat_lit 12, c12) :: (nat_lit 13, (sh.o_3 P)) :: (nat_lit 14, (sh.o_4 P)) :: (nat_lit 15, (sh.o_7 P)) :: (nat_lit 16, (sh.o_8 P)) :: (nat_lit 17, (sh.o_9 P)) :: (nat_lit 18, (sh.o_10 P)) :: (nat_lit 19, (sh.o_11 P)) :: (nat_lit 20, (sh.o_12 P)) :: (nat_lit 21, (sh.o_13 P)) :: (nat_lit 22, (sh.o_14 P)) :: (nat_lit 23, (sh.o_15 P)) :: (nat_lit 24, (sh.o_16 P)) :: (nat_lit 25, (sh.o_17 P)) :: (nat_lit 26, (sh.o_18 P)) :: (nat_lit 27, (sh.o_19 P)) :: (nat_lit 28, (sh.o_20 P)) :: (nat_lit 29, (sh.o_21 P)) :: (nat_lit 30, (sh.o_22 P)) :: (nat_lit 31, (sh.o_23 P)) :: (nat_lit 32, (sh.o_24 P)) :: (nat_lit 33, (sh.o_25 P)) :: (nat_lit 34, (sh.o_26 P)) :: (nat_lit 35, (sh.o_27 P)) :: (nat_lit 36, (sh.o_28 P)) :: (nat_lit 37, (sh.o_29 P)) :: (nat_lit 38, (sh.o_30 P)) :: (nat_lit 39, (sh.o_31 P)) :: (nat_lit 40, (sh.o_32 P)) :: (nat_lit 41, (sh.o_33 P)) :: (nat_lit 42, (sh.o_34 P)) :: (nat_lit 43, (sh.o_35 P)) :: (nat_lit 44, (sh.o_36 P)) :: (nat_lit 45, (sh.o_37 P)) :: (nat_lit 46, (sh.o_38 P)) :: (nat_lit 47, (sh.o_39 P)) :: (nat_lit 48, (sh.o_40 P)) :: (nat_lit 49, (sh.o_41 P)) :: (nat_lit 50, (sh.o_42 P)) :: (nat_lit 51, (sh.o_43 P)) :: (nat_lit 52, (sh.o_44 P)) :: (nat_lit 53, (sh.o_45 P)) :: (nat_lit 54, (sh.o_46 P)) :: (nat_lit 55, (sh.o_50 P)) :: (nat_lit 56, (sh.o_51 P)) :: (nat_lit 57, (sh.o_52 P)) :: (nat_lit 58, (sh.o_53 P)) :: (nat_lit 59, (sh.o_54 P)) :: (nat_lit 60, (sh.o_55 P)) :: (nat_lit 61, (sh.o_56 P)) :: (nat_lit 62, dMain) :: (nat_lit 101, ob101) :: (nat_lit 102, ob102) :: (nat_lit 103, ob103) :: (nat_lit 104, ob104) :: (nat_lit 105, ob105) :: (nat_lit 106, ob106) :: (nat_lit 107, ob107) :: (nat_lit 108, ob108) :: (nat_lit 109, ob109) :: (nat_lit 110, ob110) :: (nat_lit 111, ob111) :: (nat_lit 112, ob112) :: (nat_lit 113, ob113) :: (nat_lit 114, ob114) :: (nat_lit 115, ob115) :: (nat_lit 116, ob116) :: (nat_lit 117, ob117) :: (nat_lit 118, ob118) :: (nat_lit 119, ob119) :: (nat_lit 120, ob120) :: (nat_lit 121, ob121) :: (nat_lit 122, ob122) :: (nat_lit 123, ob123) :: (nat_lit 124, ob124) :: (nat_lit 125, ob125) :: (nat_lit 126, ob126) :: (nat_lit 127, ob127) :: (nat_lit 128, ob128) :: (nat_lit 129, ob129) :: (nat_lit 130, ob130) :: (nat_lit 131, ob131) :: (nat_lit 132, ob132) :: (nat_lit 133, ob133) :: (nat_lit 134, ob134) :: (nat_lit 135, ob135) :: (nat_lit 136, ob136) :: (nat_lit 137, ob137) :: (nat_lit 138, ob138) :: (nat_lit 139, ob139) :: (nat_lit 140, ob140) :: (nat_lit 141, ob141) :: (nat_lit 142, ob142) :: (nat_lit 143, ob143) :: (nat_lit 144, ob144) :: (nat_lit 145, ob145) :: (nat_lit 146, ob146) :: (nat_lit 147, ob147) :: (nat_lit 148, ob148) :: (nat_lit 149, ob149) :: (nat_lit 150, ob150) :: (nat_lit 151, ob151) :: (nat_lit 152, ob152) :: (nat_lit 153, ob153) :: []
def KA : List Addr := [3, 11, 12, 13, 14, 15, 16, 17, 18, 19, 20, 21, 22, 23, 24, 25, 26, 27, 28, 29, 30, 31, 32, 33, 34, 35, 36, 37, 38, 39, 40, 41, 42, 43, 44, 45, 46, 47, 48, 49, 50, 51, 52, 53, 54, 55, 56, 57, 58, 59, 60, 61, 62, 101, 102, 103, 104, 105, 106, 107, 108, 109, 110, 111, 112, 113, 114, 115, 116, 117, 118, 119, 120, 121, 122, 123, 124, 125, 126, 127, 128, 129, 130, 131, 132, 133, 134, 135, 136, 137, 138, 139, 140, 141, 142, 143, 144, 145, 146, 147, 148, 149, 150, 151, 152, 153]
abbrev bAll : List Stmt := behindTheImports PW
noncomputable def S15 (w : World) (os : OsState) : SharedT := { tree := sh.tree_4 w.params, n := 15, life := { }, gens := { toList := [] }, drawn := { }, toks := 187, os := os }
noncomputable def S0 (w : World) (os : OsState) : Shared := ⟨boot_heap w.params, Array.mk [], boot_drawn, boot_toks, os⟩
theorem bAll_eq : bAll = sh.sts_4 ++ (sh.sts_48 ++ ([stm 24] ++ (sufx ++ []))) := by kernel_rfl
theorem preRun (w : World) (os : OsState) : topGo treeTable PW w 11 (some (.ref 6)) 12 (S0 w os) (topStub PW) = some ((S15 w os).abs, ⟨denote treeTable (.body bAll sh.env_1), .body bAll sh.env_1, ⟨0, 0, 0, 0⟩, [topFrame ⟨0, 0, 0, 0⟩]⟩) := by kernel_rfl
theorem blockRun (w : World) (os : OsState) : segRun treeTable PW w 11 (some (.ref 6)) 1 1 (S15 w os).abs (blockOf bAll sh.env_1 (.body bAll sh.env_1) ⟨0, 0, 0, 0⟩ [topFrame ⟨0, 0, 0, 0⟩]) = some (.next, (S15 w os).abs, .body bAll sh.env_1, ⟨0, 0, 0, 0⟩) := by kernel_rfl
theorem finRun (w : World) (os : OsState) (b : List Stmt) : topRun treeTable PW w 11 (some (.ref 6)) 2 (Sf w os).abs ⟨doneF .next, .body b sh.env_1, ⟨96, 0, 116, 15⟩, [topFrame ⟨0, 0, 0, 0⟩]⟩ = some (Sf w os).abs := by kernel_rfl
theorem allRun (w : World) (os : OsState) : topRun treeTable PW w 11 (some (.ref 6)) (12 + (1 + (371 + (44 + (21621 + (264 + 2)))))) (S0 w os) (topStub PW) = some (Sf w os).abs := by
  refine go_top (preRun w os) (piece_block (blockRun w os) ?_)
  have h := sh.chain PW bAll w os ([stm 24] ++ (sufx ++ [])) (21621 + (264 + 2)) (Sf w os).abs (piece_app (run24 PW bAll w os) (piece_app (segRun_of (run25 PW bAll w os)) (piece_nil (finRun w os bAll))))
  rw [← bAll_eq] at h
  exact h
noncomputable def H1 (P : Params) : Heap := absHeap (Tf P) 154 { }
def keep : List Nat := [1, 2, 3, 4, 5, 6, 7, 8, 9, 10, 11, 12, 13, 14, 15, 16, 17, 18, 19, 20, 21, 22, 24, 25, 27, 28, 29, 30, 31, 32, 33, 34]
def vw : Program := view PW keep
def loose : List Str := [Str.ofString "_filemode_table", Str.ofString "b3_exceptions"]
theorem opens : ∀ w : World, (fencedOpening treeTable PW w 30000).map (fun s => (s.heap, s.gens, s.drawn, s.toks)) = some (boot_heap w.params, Array.mk [], boot_drawn, boot_toks) :=
  boot_open (by kernel_rfl) (by decide) (fun _ => rfl)
theorem sizes : ∀ w : World, ((boot_heap w.params).isNs mainGlobals && (Array.mk [] : Array GenState).size == 0, (boot_heap w.params).objs.size, (boot_heap w.params).nsMap mainGlobals "__annotations__") = (true, 11, some (.ref 6)) := by
  intro w; kernel_rfl
end Mine

-- part G5
set_option Elab.async false
set_option maxRecDepth 100000
set_option maxHeartbeats 0
namespace Mine
noncomputable abbrev KH : Hook := kHook KF KA (fun _ => by kernel_rfl)
abbrev Xt (s : Shared) : Bool := xlAt vw [] s && recOk [] s
section
variable (w : World) (os : OsState)
theorem lk0 : (staticsOk (importedModules PW.main.body) (boot_heap w.params) (H1 w.params) && namesBound PW (H1 w.params) && gensDone ⟨H1 w.params, { toList := [] }, { }, 2293, os⟩ && laidKept (boot_heap w.params) (H1 w.params)) = true := by kernel_rfl
theorem lkY : KH.obs ⟨H1 w.params, { toList := [] }, { }, 2293, os⟩ = KH.val w := by kernel_rfl
noncomputable abbrev sF : Shared := ⟨H1 w.params, { toList := [] }, { }, 2293, os⟩
theorem lk1 : seen ((recsOf vw).map (·.name)) (ownsOf vw) [] { sF w os with gens := #[] } = expectedOf vw := by kernel_rfl
theorem lk2 : (sF w os).heap.bltView = bltViewBooted := by kernel_rfl
theorem lk3a : (sF w os).heap.keysOk (looseW vw loose) ((recsOf vw).map (·.name)) ((litsOf vw).map (·.1)) ((clssOf vw (looseW vw loose)).map (·.name)) = true := by kernel_rfl
theorem lk3b : (sF w os).heap.accountedOkI (importedModules PW.main.body) = true := by kernel_rfl
theorem lk3c : (sF w os).heap.isNs mainGlobals = true := by kernel_rfl
theorem lk3d : (sF w os).heap.isNs builtinsNs = true := by kernel_rfl
theorem lk3e : (fastT vw (sF w os).heap).1 = true := by kernel_rfl
theorem lk3f : Xt (sF w os) = true := by kernel_rfl
theorem lk3g : (if true then (sF w os).gens.size == 0 else !leftWithCleanup (sF w os).gens) = true := by kernel_rfl
theorem lk3 : ((sF w os).heap.keysOk (looseW vw loose) ((recsOf vw).map (·.name)) ((litsOf vw).map (·.1)) ((clssOf vw (looseW vw loose)).map (·.name)) && (sF w os).heap.accountedOkI (importedModules PW.main.body) && (sF w os).heap.isNs mainGlobals && (sF w os).heap.isNs builtinsNs && tablesOk vw (sF w os).heap && Xt (sF w os) && (if true then (sF w os).gens.size == 0 else !leftWithCleanup (sF w os).gens)) = true :=
  andT (andT (andT (andT (andT (andT (lk3a w os) (lk3b w os)) (lk3c w os)) (lk3d w os)) (tablesOk_of (lk3e w os))) (lk3f w os)) (lk3g w os)
theorem lk4 : tabsOk vw (sF w os) = true := by kernel_rfl
theorem lk5 : pinSeenD vw (drecsOf vw) (sF w os) = pinGoodD (drecsOf vw) := by kernel_rfl
theorem lk6 : plainSeenE vw (looseW vw loose) (sF w os) = plainGoodE vw (looseW vw loose) := by kernel_rfl
theorem lk7 : plainSeenD vw loose (sF w os) = plainGoodD vw loose := by kernel_rfl
theorem lk8 : wideSeen vw (sF w os) = wideGood vw := by kernel_rfl
theorem lk9 : clsSeenW vw loose (sF w os) = clsGoodW vw loose := by kernel_rfl
end
theorem left1 : LeftO PW vw loose Xt KH.obs KH.val 30000 :=
  LeftO.of_pieces (H₀ := boot_heap) (H₁ := H1) (gs₁ := { toList := [] }) (d₁ := { }) (k₁ := 2293) opens sizes (fun w os => allRun w os) (by decide) (fun w => funext fun os => by
    have h : openSeen vw loose (importedModules PW.main.body) Xt true (sF w os) = openGood vw loose := by
      unfold openSeen openGood
      rw [lk1, lk2, lk3, lk4, lk5, lk6, lk7, lk8, lk9]
    rw [lk0 w os, h, lkY w os])
end Mine

-- part G6
set_option Elab.async false
set_option maxRecDepth 100000
set_option maxHeartbeats 0
namespace Mine
abbrev LW : OpenLaw := PySem.Challenge.rw_nq0144_01
theorem head1 (hw : LW.row.toRowW.promised) (d : DefRec) (kwd : List (Str × PySem.Expr)) (hd : defOf vw (LW.row).name = some (d, kwd)) (hp : LW.row.prog.theDef LW.row.name = some (d.params, d.body, d.scope)) (hk : kwWritten? d.params.kwonlyargs d.params.kw_defaults = some kwd)
    (hc : WalkO vw loose (XL vw []) KH.says LW.row.toRowW d kwd fun f vs => PySem.call f vs) : LW.Holds := by
  w_on
  o_law
  exact holds_open (q := vw) (loose := loose) (Xt := fun s => xlAt vw [] s && recOk (RowW.records LW.row.toRowW) s) (XP := XL vw []) (Yf := KH.obs) (Ya := KH.val) (YP := KH.says) (N := 30000) left1 (Hook.of KH) (Hook.keeps KH)
    (fun s e => xl_of s (Bool.and_eq_true_iff.mp e).1) XL.keeps hd hp hk (fun s e => recFacts_of (Bool.and_eq_true_iff.mp e).2) (by rfl) (by assumption) (by decide +kernel) ⟨rfl, rfl, rfl, rfl, rfl, by decide +kernel⟩ hw hc
end Mine

-- part F1
open PySem PySem.W PyProof.Rows PySem.Calls
set_option Elab.async false
set_option maxRecDepth 100000
namespace Mine
abbrev MD (w : World) : Model := model PW w
noncomputable abbrev KW (w : World) : Frag := KF w.params
/-- what every heap of the walk holds -/
structure Gd (w : World) (mg mb : Str → Option Value) (h : Heap) : Prop where
  X : (KW w).In h
  T : TopRead vw (looseW vw loose) mg mb h
def Grown (h h' : Heap) : Prop := ∀ b o, h.get? b = some o → h'.get? b = some o
theorem Grown.refl (h : Heap) : Grown h h := fun _ _ e => e
theorem Grown.trans {a b c : Heap} (x : Grown a b) (y : Grown b c) : Grown a c := fun _ _ e => y _ _ (x _ _ e)
theorem Gd.keeps {w : World} {mg mb : Str → Option Value} {h h' : Heap} (G : Gd w mg mb h) (k : Grown h h') : Gd w mg mb h' := ⟨G.X.keeps k, G.T.keeps k⟩
/-- room for deeper calls -/
structure Room (A : Around) (k : Nat) : Prop where
  d : A.depth + k < recursionLimit
  u : A.units + 4 * k < cLine
  h : A.handled = none
theorem Room.deeper {A : Around} {k : Nat} {env : Env} (R : Room A (k + 1)) : Room (A.deeper env) k := ⟨by show A.depth + 1 + k < _; have := R.d; omega, by show A.units + 3 + 4 * k < _; have := R.u; omega, R.h⟩
theorem Room.mono {A : Around} {j k : Nat} (R : Room A k) (h : j ≤ k) : Room A j := ⟨by have := R.d; omega, by have := R.u; omega, R.h⟩

/-- what a def is -/
def fName : Stmt → Str
  | .FunctionDef n _ _ _ _ _ _ _ _ _ => n
  | _ => ⟨#[]⟩
def fParams : Stmt → Arguments
  | .FunctionDef _ a _ _ _ _ _ _ _ _ => a
  | _ => ⟨[], [], none, [], [], none, []⟩
def fBody : Stmt → List Stmt
  | .FunctionDef _ _ b _ _ _ _ _ _ _ => b
  | _ => []
def fScope : Stmt → Scope
  | .FunctionDef _ _ _ _ _ _ sc _ _ _ => sc
  | _ => { kind := .function, names := [], isGenerator := false, isCoroutine := false }

section
variable {w : World} {mg mb : Str → Option Value} {A : Around} {E : Value → Shared → Prop} {s : Shared} {Q : Value → Shared → Prop}
theorem call_fn {f c : Addr} {o : Obj} {name : Str} {params : Arguments} {body : List Stmt} {scope : Scope} {pm doc : Value} {vals : List Value} (binds : List (Str × Value)) (G : Gd w mg mb s.heap) (hroom : A.depth < recursionLimit)
    (ho : (KW w).lookup f = some o) (hdat : o.data = .func (docDef name params body scope pm (.ref c) doc)) (hcd : codeIn (KW w) (.ref c) name = true)
    (hbind : bindArgs (docDef name params body scope pm (.ref c) doc) ⟨vals, []⟩ = pure binds) (hloc : ∀ x ∈ binds, scope.names.lookup x.1 = some .local)
    (h : ∀ h₁, Fr s.heap s.heap.objs.size h₁ (fun x => binds.reverse.lookup x) → wpAny (MD w) (A.deeper (envOf name scope s.heap.objs.size f (.ref c))) (execs body (envOf name scope s.heap.objs.size f (.ref c)))
        (fun fl s' => Q (match fl with | .ret v => v | _ => .none) s') (fun _ _ => False) { s with heap := h₁, toks := s.toks + binds.length })
    (hco : scope.isCoroutine = false) (hgen : scope.isGenerator = false) (hk : scope.kind = .function) (hcell : ∀ x ∈ scope.names, x.2 ≠ .cell) :
    wpAny (MD w) A (call (.ref f) vals) Q E s :=
  wpAny_call (call_plain_ret hroom (G.X f o ho) hdat G.T.nolimit (codeRec_of G.X hcd) hbind hloc h hco hgen hk hcell)
end

section
variable {w : World} {mg mb : Str → Option Value} {A : Around} {E : Value → Shared → Prop} {s : Shared} {Q : Value → Shared → Prop}
theorem c_ifmt {n : Int} {t : Tok} (G : Gd w mg mb s.heap) (R : Room A 1) (h : ∀ t h' tk, Grown s.heap h' → Q (.int (Builtin.bitAnd n 61440) t) { s with heap := h', toks := tk }) :
    wpAny (MD w) A (call (.ref 21) [.int n t]) Q E s := by
  refine call_fn (f := 21) (c := 20) (name := fName (stm 1)) (params := fParams (stm 1)) (body := fBody (stm 1)) (scope := fScope (stm 1)) [(Str.ofString "mode", .int n t)] G (by have := R.d; omega) rfl rfl (by kernel_rfl) rfl (locs rfl) (fun h₁ F => ?_) rfl rfl rfl (by decide +kernel)
  refine wpAny_execs_cons (wpAny_Return_some (wpAny_BinOp (ld F rfl (wpAny_Constant_int (and_int ?_)))))
  exact h _ _ _ F.keep
end
end Mine

-- part F2
set_option Elab.async false
set_option maxRecDepth 100000
namespace Mine
/-- all but these stand as they stood -/
def But (Ms : List Addr) (h h' : Heap) : Prop := ∀ b o, b ∉ Ms → h.get? b = some o → h'.get? b = some o
theorem But.refl (Ms : List Addr) (h : Heap) : But Ms h h := fun _ _ _ e => e
theorem But.trans {Ms : List Addr} {a b c : Heap} (x : But Ms a b) (y : But Ms b c) : But Ms a c := fun _ _ n e => y _ _ n (x _ _ n e)
theorem But.mono {Ms Ns : List Addr} {a b : Heap} (x : But Ms a b) (h : ∀ m ∈ Ms, m ∈ Ns) : But Ns a b := fun _ _ n e => x _ _ (fun q => n (h _ q)) e
theorem But.of_grown {Ms : List Addr} {a b : Heap} (x : Grown a b) : But Ms a b := fun _ _ _ e => x _ _ e
theorem But.of_same {a b : Heap} {l : Addr} {Ms : List Addr} (x : Heap.SameBut l a b) (h : l ∈ Ms) : But Ms a b := fun c o n e => (x.2 c (fun q => n (q ▸ h))).trans e
theorem fr_at {base h h' : Heap} {L : Addr} {m : Str → Option Value} (F : Fr base L h m) (x : But [] h h') : Fr base L h' m :=
  ⟨F.ns.at' fun o e => x _ o (by simp) e, fun b o e => x b o (by simp) (F.keep b o e), F.above⟩
theorem fr_but {base h h' : Heap} {L : Addr} {m : Str → Option Value} {Ms : List Addr} (F : Fr base L h m) (x : But Ms h h') (hL : L ∉ Ms) (hb : ∀ a ∈ Ms, base.get? a = none) : Fr base L h' m :=
  ⟨F.ns.at' fun o e => x _ o hL e, fun b o e => x b o (fun q => by rw [hb b q] at e; cases e) (F.keep b o e), F.above⟩

section
variable {w : World} {A : Around} {s : Shared} {env : Env} {base : Heap}
/-- what a turn leaves -/
def Turn (base : Heap) (L : Addr) (mu : List Addr) (J : (Str → Option Value) → Heap → Prop) (R : Result → Shared → Prop) (s : Shared) : Flow → Shared → Prop
  | .next, s' => ∃ m h tk, s' = { s with heap := h, toks := tk } ∧ Fr base L h m ∧ J m h ∧ But (L :: mu) s.heap h
  | .cont, s' => ∃ m h tk, s' = { s with heap := h, toks := tk } ∧ Fr base L h m ∧ J m h ∧ But (L :: mu) s.heap h
  | .brk, s' => R (.ok .next) s'
  | .ret v, s' => R (.ok (.ret v)) s'

theorem for_rule {R : Result → Shared → Prop} {target : PySem.Expr} {body orelse : List Stmt} {I : Addr} {fp wr : List Addr} {n : Nat} {P : Nat → Value → Prop} {St : Nat → Heap → Prop} {m : Str → Option Value} (mu : List Addr)
    (J : Nat → (Str → Option Value) → Heap → Prop) (W : Walks PW w A I fp wr n P St) (hLf : env.locals ∉ fp) (hmf : ∀ a ∈ mu, a ∉ fp) (hwb : ∀ a ∈ wr, base.get? a = none)
    (hJ : ∀ i m h h', J i m h → (∀ a ∈ mu, ∀ o, h.get? a = some o → h'.get? a = some o) → J i m h')
    (hst : St 0 s.heap) (F : Fr base env.locals s.heap m) (h0 : J 0 m s.heap)
    (turn : ∀ i v m h tk, i < n → P i v → Fr base env.locals h m → J i m h → But (env.locals :: mu ++ wr) s.heap h →
      wpAny (MD w) A (assign target env v) (fun _ s' => wpAny (MD w) A (execs body env) (Turn base env.locals mu (J (i + 1)) R { s with heap := h, toks := tk }) (fun _ _ => False) s') (fun _ _ => False) { s with heap := h, toks := tk })
    (done : ∀ m h tk, Fr base env.locals h m → J n m h → But (env.locals :: mu ++ wr) s.heap h → wpAny (MD w) A (execs orelse env) (fun f s' => R (.ok f) s') (fun _ _ => False) { s with heap := h, toks := tk })
    (ht : ∀ v, letOwnedTupleGo target (.ref I) v = pure () := by intro _; rfl) :
    codeAny (MD w) A (.forLoop target (.ref I) body orelse env) R s := by
  have hLw : env.locals ∉ wr := fun q => hLf (W.sub _ q)
  have hmw : ∀ a ∈ mu, a ∉ wr := fun a ha q => hmf a ha (W.sub _ q)
  refine codeAny_forLoop (fun k s' => ∃ i m h tk, s' = { s with heap := h, toks := tk } ∧ i ≤ n ∧ k = n + 1 - i ∧ St i h ∧ Fr base env.locals h m ∧ J i m h ∧ But (env.locals :: mu ++ wr) s.heap h) ?_ (n + 1)
    ⟨0, m, s.heap, s.toks, rfl, Nat.zero_le _, rfl, hst, F, h0, .refl _ _⟩ ht
  rintro k s' ⟨i, m, h, tk, rfl, hi, rfl, hst, F, hj, hb⟩
  have go : ∀ h₁, (∀ b o, b ∉ wr → h.get? b = some o → h₁.get? b = some o) → Fr base env.locals h₁ m ∧ J i m h₁ ∧ But (env.locals :: mu ++ wr) s.heap h₁ := fun h₁ k₁ =>
    ⟨fr_but F (Ms := wr) k₁ hLw hwb, hJ _ _ _ _ hj fun a ha o e => k₁ a o (hmw a ha) e, hb.trans fun b o nb e => k₁ b o (fun q => nb (List.mem_append_right _ q)) e⟩
  by_cases hlt : i < n
  · refine W.item i _ _ _ hlt hst fun v h₁ tk₁ hP hst₁ k₁ => ?_
    obtain ⟨F₁, j₁, b₁⟩ := go h₁ k₁
    refine wpAny_mono (turn i v m h₁ tk₁ hlt hP F₁ j₁ b₁) (fun _ s₂ h₂ => wpAny_mono h₂ (fun f s₃ h₃ => ?_) fun _ _ x => x.elim) fun _ _ x => x.elim
    have nx : (∃ m h tk, s₃ = { ({ s with heap := h₁, toks := tk₁ } : Shared) with heap := h, toks := tk } ∧ Fr base env.locals h m ∧ J (i + 1) m h ∧ But (env.locals :: mu) h₁ h) →
        ∃ m_1, m_1 < n + 1 - i ∧ ∃ i_1 m h tk, s₃ = { s with heap := h, toks := tk } ∧ i_1 ≤ n ∧ m_1 = n + 1 - i_1 ∧ St i_1 h ∧ Fr base env.locals h m ∧ J i_1 m h ∧ But (env.locals :: mu ++ wr) s.heap h := by
      rintro ⟨m', h', tk', rfl, F', j', b'⟩
      refine ⟨n + 1 - (i + 1), by omega, i + 1, m', h', tk', rfl, hlt, rfl, ?_, F', j', b₁.trans (b'.mono fun a ha => List.mem_append_left _ ha)⟩
      refine W.frame _ _ _ hst₁ fun b hbf o e => b' b o ?_ e
      intro q
      rcases List.mem_cons.mp q with rfl | q
      · exact hLf hbf
      · exact hmf b q hbf
    cases f with
    | next => exact nx h₃
    | cont => exact nx h₃
    | brk => exact h₃
    | ret v => exact h₃
  · have hin : i = n := by omega
    subst hin
    refine W.done _ _ _ hst fun h₁ tk₁ k₁ => ?_
    obtain ⟨F₁, j₁, b₁⟩ := go h₁ k₁
    exact wpAny_mono (done m h₁ tk₁ F₁ j₁ b₁) (fun _ _ x => x) fun _ _ x => x.elim
end
end Mine

-- part F3
set_option Elab.async false
set_option maxRecDepth 100000
namespace Mine
section
variable {prog : Program} {w : World} {A : Around} {E : Value → Shared → Prop} {s : Shared}
theorem nextOf_tuple_item {it l : Addr} {i : Nat} {items : Array Value} {x : Value} {Q : Value → Shared → Prop} (hit : s.heap.IsTupleIter it l i) (hl : s.heap.IsTuple l items) (hx : items[i]? = some x)
    (hQ : ∀ h', h'.IsTupleIter it l (i + 1) → Heap.SameBut it s.heap h' → Q x { s with heap := h' }) : wpAny (model prog w) A (Builtin.SmallTypes.nextOf (.ref it)) Q E s := by
  obtain ⟨o, ho, hc, hd⟩ := id hit
  obtain ⟨ol, hol, _, nl, hdl⟩ := hl
  unfold Builtin.SmallTypes.nextOf
  refine wpAny_bind (wpAny_callSpecial?_slot (name := Str.ofString "__next__") hit.typeIs F.slot_tuple_iterator_next
    (wpAny_call_entry F.slot_tuple_iterator_next hit.typeIs F.entry_tuple_iterator_next ?_ (F.args_tuple_iterator_next_1 _)))
  show wpAny _ _ (field (.ref it) 0 >>= _) _ _ s
  refine wpAny_bind (wpAny_field ho hd (x := .ref l) rfl ?_)
  show wpAny _ _ (if (Value.ref l == Value.none) = true then _ else _) _ _ s
  rw [if_neg (show ¬ ((Value.ref l == Value.none) = true) from Bool.false_ne_true)]
  show wpAny _ _ (field (.ref it) 1 >>= _) _ _ s
  refine wpAny_bind (wpAny_field ho hd (x := .int i 0) rfl ?_)
  show wpAny _ _ (seqItems? (.ref l) >>= _) _ _ s
  refine wpAny_bind (wpAny_seqItems hol hdl ?_)
  simp only [Int.toNat_natCast, hx]
  refine wpAny_bind (wpAny_setField ho hd (by simp) (wpAny_pure ⟨x, rfl, wpAny_pure (hQ _ ?_ (Heap.SameBut.update ..))⟩))
  exact ⟨_, Heap.get?_update_self _ ho (Obj.isFreed_of_fields (Obj.data_mapFields hd _)), (Obj.cls_mapFields ..).trans hc, by
    rw [Obj.data_mapFields hd]; simp [rawInt]⟩
theorem nextOf_tuple_end {it l : Addr} {i : Nat} {items : Array Value} {Q : Value → Shared → Prop} (hh : A.handled = none) (hit : s.heap.IsTupleIter it l i) (hl : s.heap.IsTuple l items) (hx : items[i]? = none)
    (hE : ∀ h' e, Heap.ExtBut it s.heap h' → (∃ o, h'.get? e = some o ∧ o.cls = .type "StopIteration") → E (.ref e) { s with heap := h' }) : wpAny (model prog w) A (Builtin.SmallTypes.nextOf (.ref it)) Q E s := by
  obtain ⟨o, ho, hc, hd⟩ := id hit
  obtain ⟨ol, hol, _, nl, hdl⟩ := hl
  unfold Builtin.SmallTypes.nextOf
  refine wpAny_bind (wpAny_callSpecial?_slot (name := Str.ofString "__next__") hit.typeIs F.slot_tuple_iterator_next
    (wpAny_call_entry F.slot_tuple_iterator_next hit.typeIs F.entry_tuple_iterator_next ?_ (F.args_tuple_iterator_next_1 _)))
  show wpAny _ _ (field (.ref it) 0 >>= _) _ _ s
  refine wpAny_bind (wpAny_field ho hd (x := .ref l) rfl ?_)
  show wpAny _ _ (if (Value.ref l == Value.none) = true then _ else _) _ _ s
  rw [if_neg (show ¬ ((Value.ref l == Value.none) = true) from Bool.false_ne_true)]
  show wpAny _ _ (field (.ref it) 1 >>= _) _ _ s
  refine wpAny_bind (wpAny_field ho hd (x := .int i 0) rfl ?_)
  show wpAny _ _ (seqItems? (.ref l) >>= _) _ _ s
  refine wpAny_bind (wpAny_seqItems hol hdl ?_)
  simp only [Int.toNat_natCast, hx]
  refine wpAny_bind (wpAny_rule (wpAny_bind (wpAny_setField ho hd (by simp) ?_)))
  show wpAny _ _ (newExc (.type "StopIteration") [] >>= _) _ _ _
  refine wpAny_bind ?_
  simp only [newExc, newTuple]
  refine wpAny_bind (wpAny_newObj_type ?_ (by size_fits))
  refine wpAny_bind (m := firstArgMember _ _) (wpAny_of_eq (a := Value.none) (by first | rfl | (simp only [firstArgMember]; rfl)) ?_)
  refine wpAny_newObj_type ?_ (by size_fits)
  simp only [raiseNew]
  refine wpAny_bind (wpAny_handled ?_)
  first | rw [show A.in1.handled = none from hh] | rw [hh]
  refine wpAny_bind (wpAny_pure (wpAny_throw ?_))
  exact hE _ _ (((Heap.SameBut.update ..).extBut.push _).push _) ⟨_, Heap.get?_push_size _ rfl, rfl⟩
theorem draws_tuple (hh : A.handled = none) (it l : Addr) (hne : l ≠ it) (items : Array Value) :
    Draws prog w A it [it, l] items.size (fun i v => items[i]? = some v) (fun i h => h.IsTupleIter it l i ∧ h.IsTuple l items) where
  live := fun _ _ st => let ⟨o, ho, _⟩ := st.1; ⟨o, ho⟩
  frame := fun _ _ _ st hk => ⟨st.1.at fun o e => hk it (by simp) o e, st.2.at fun o e => hk l (by simp) o e⟩
  item := fun i s Q E hi st hQ => by
    refine nextOf_tuple_item st.1 st.2 (x := items[i]) (by simp [hi]) fun h' hit' hs' => ?_
    exact hQ _ h' s.toks (by simp [hi]) ⟨hit', st.2.extBut hs'.extBut hne⟩ hs'
  done := fun s Q E st hE => nextOf_tuple_end hh st.1 st.2 (by simp) hE

theorem meets_enum_tuple (l : Addr) (items : Array Value) (n : Nat) (dct : Option Addr) (sl : Array (Option Value)) :
    Meets (Builtin.«enumerate.__new__» ⟨[.type "enumerate", .ref l], []⟩) (fun _ R s => s.heap.get? l = some { cls := .type "tuple", dict := dct, data := .seq items n, slots := sl } ∧
      R (.ok (.ret (.ref (s.heap.push { cls := .type "tuple_iterator", data := .fields #[.ref l, .int 0 0] }).objs.size)))
        { s with heap := (s.heap.push { cls := .type "tuple_iterator", data := .fields #[.ref l, .int 0 0] }).push { cls := .type "enumerate", data := .fields #[.none, .bool false, .ref s.heap.objs.size, rawInt 0, .none, .none] } }) :=
  .of_wp fun prog w A R s h => by
    obtain ⟨hp, g, d, tk, os⟩ := s; obtain ⟨hl, h⟩ := h
    have hsub := sub_enumerate
    have hL : Heap.IsTuple (Shared.heap ⟨hp, g, d, tk, os⟩) l items := ⟨_, hl, rfl, n, rfl⟩
    wp_walk using PySem.AutoSeq1.wpAny_loadPart' hl
    refine wpAny_stack_any fun st => wpAny_pure ?_
    split
    · rename_i c _ _ _ _ _
      cases (c == Value.type "enumerate")
      · wp_walk using PySem.AutoSeq1.wpAny_loadPart' hl, wpAny_pyIter_tuple hL
        exact ⟨_, rfl, h⟩
      · wp_walk using PySem.AutoSeq1.wpAny_loadPart' hl, wpAny_pyIter_tuple hL
        exact ⟨_, rfl, h⟩
    · wp_walk using PySem.AutoSeq1.wpAny_loadPart' hl, wpAny_pyIter_tuple hL
      exact ⟨_, rfl, h⟩
theorem call_enum_tuple {l : Addr} {items : Array Value} {Q : Value → Shared → Prop} (hL : s.heap.IsTuple l items)
    (h : ∀ h', IsEnum h' (s.heap.objs.size + 1) s.heap.objs.size 0 .none → h'.IsTupleIter s.heap.objs.size l 0 → h'.objs.size = s.heap.objs.size + 2 →
      (∀ b o, s.heap.get? b = some o → h'.get? b = some o) → Q (.ref (s.heap.objs.size + 1)) { s with heap := h' }) :
    wpAny (model prog w) A (call (.type "enumerate") [.ref l]) Q E s := by
  obtain ⟨⟨c, dct, dt, sl⟩, hl, hc, n, hd⟩ := hL
  replace hc : c = .type "tuple" := hc
  replace hd : dt = .seq items n := hd
  subst hc hd
  refine callType_new F.called_enumerate (by decide) (F.typeCall_enumerate_1 _) (F.newCall_enumerate_1 _) (fun obj => F.args_object_init_2 obj _) F.entry_enumerate_new
    (meets_enum_tuple l items n dct sl) ⟨hl, ?_⟩
  have hz : (s.heap.push { cls := .type "tuple_iterator", data := .fields #[.ref l, .int 0 0] }).objs.size = s.heap.objs.size + 1 := Heap.size_push ..
  show _ ∧ _
  rw [hz]
  have he : IsEnum ((s.heap.push { cls := .type "tuple_iterator", data := .fields #[.ref l, .int 0 0] }).push
      { cls := .type "enumerate", data := .fields #[.none, .bool false, .ref s.heap.objs.size, rawInt 0, .none, .none] }) (s.heap.objs.size + 1) s.heap.objs.size 0 .none := by
    have := Heap.get?_push_size (s.heap.push { cls := .type "tuple_iterator", data := .fields #[.ref l, .int 0 0] })
      (o := { cls := .type "enumerate", data := .fields #[.none, .bool false, .ref s.heap.objs.size, rawInt 0, .none, .none] }) rfl
    rw [hz] at this; exact this
  refine ⟨⟨_, he, rfl⟩, h _ he ⟨_, Heap.get?_push_of_some _ (Heap.get?_push_size _ rfl), rfl, rfl⟩ (by rw [Heap.size_push, hz]) fun b o x => Heap.get?_push_of_some _ (Heap.get?_push_of_some _ x)⟩
end

section
variable {w : World} {A : Around} {s : Shared} {env : Env} {base : Heap}
theorem assign_pair {xi xc : Str} {pk pv pt : Pos} {x1 : Nat} {m : Str → Option Value} {T : Addr} {v0 v1 : Value} {Q : Unit → Shared → Prop} {E : Value → Shared → Prop} (hh : A.handled = none) (F : Fr base env.locals s.heap m) (hT : s.heap.IsTuple T #[v0, v1])
    (hxi : env.kindOf xi = some .local) (hxc : env.kindOf xc = some .local) (hp : (env.scope.kind == .class || (env.scope.kind == .module && env.locals != env.globals)) = false)
    (h : ∀ h' tk, Fr base env.locals h' (fun y => if y = xc then some v1 else if y = xi then some v0 else m y) → But [env.locals] s.heap h' → Q () { s with heap := h', toks := tk }) :
    wpAny (MD w) A (assign (.Tuple [.Name xi pk, .Name xc pv] x1 pt) env (.ref T)) Q E s := by
  refine wpAny_assign_Tuple hh hT rfl rfl fun h₃ hx₃ => ?_
  have up₃ : ∀ b o, s.heap.get? b = some o → h₃.get? b = some o := fun b o x => hx₃ b o (Nat.ne_of_lt (Heap.lt_size x)) x
  have F₃ := fr_at F (fun b o _ e => up₃ b o e)
  show wpAny _ A (do holding [v1] (assign (.Name xi pk) env v0); do holding [] (assign (.Name xc pv) env v1); pure ()) _ _ _
  refine wpAny_bind (wpAny_holding (wpAny_assign_Name (wpAny_storeName_local hxi F₃.ns (fun h₄ hn₄ hs₄ => ?_) hp)))
  replace hs₄ : Heap.SameBut env.locals h₃ h₄ := hs₄
  have F₄ := F₃.set hn₄ hs₄
  refine wpAny_bind (wpAny_holding (wpAny_assign_Name (wpAny_storeName_local hxc F₄.ns (fun h₅ hn₅ hs₅ => wpAny_pure ?_) hp)))
  replace hs₅ : Heap.SameBut env.locals h₄ h₅ := hs₅
  exact h h₅ _ (F₄.set hn₅ hs₅) (((But.of_grown up₃).trans (But.of_same hs₄ (by simp))).trans (But.of_same hs₅ (by simp)))

theorem for_enum {R : Result → Shared → Prop} {xi xc : Str} {pk pv pt : Pos} {x1 : Nat} {body orelse : List Stmt} {I : Addr} {fp wr : List Addr} {n : Nat} {Pt : Nat → Array Value → Prop} {St : Nat → Heap → Prop} {Mid : Nat → Addr → Heap → Prop}
    {P2 : Nat → Value → Value → Prop} {m : Str → Option Value} (mu : List Addr) (J : Nat → (Str → Option Value) → Heap → Prop) (hh : A.handled = none) (W : WalksU PW w A I fp wr n Pt St Mid) (h2 : ∀ i vals, Pt i vals → ∃ v0 v1, vals = #[v0, v1] ∧ P2 i v0 v1)
    (hxi : env.kindOf xi = some .local) (hxc : env.kindOf xc = some .local) (hp : (env.scope.kind == .class || (env.scope.kind == .module && env.locals != env.globals)) = false)
    (hLf : env.locals ∉ fp) (hmf : ∀ a ∈ mu, a ∉ fp) (hml : ∀ a ∈ mu, a ≠ env.locals) (hwb : ∀ a ∈ wr, base.get? a = none)
    (hJ : ∀ i m h h', J i m h → (∀ a ∈ mu, ∀ o, h.get? a = some o → h'.get? a = some o) → J i m h')
    (hst : St 0 s.heap) (F : Fr base env.locals s.heap m) (h0 : J 0 m s.heap)
    (turn : ∀ i v0 v1 m h tk, i < n → P2 i v0 v1 → Fr base env.locals h (fun y => if y = xc then some v1 else if y = xi then some v0 else m y) → J i m h → But (env.locals :: mu ++ wr) s.heap h →
      wpAny (MD w) A (execs body env) (Turn base env.locals mu (J (i + 1)) R { s with heap := h, toks := tk }) (fun _ _ => False) { s with heap := h, toks := tk })
    (done : ∀ m h tk, Fr base env.locals h m → J n m h → But (env.locals :: mu ++ wr) s.heap h → wpAny (MD w) A (execs orelse env) (fun f s' => R (.ok f) s') (fun _ _ => False) { s with heap := h, toks := tk }) :
    codeAny (MD w) A (.forLoop (.Tuple [.Name xi pk, .Name xc pv] x1 pt) (.ref I) body orelse env) R s := by
  have hLw : env.locals ∉ wr := fun q => hLf (W.sub _ q)
  have hmw : ∀ a ∈ mu, a ∉ wr := fun a ha q => hmf a ha (W.sub _ q)
  refine codeAny_forLoop_any (fun k s' => ∃ i m h tk, s' = { s with heap := h, toks := tk } ∧ i ≤ n ∧ k = n + 1 - i ∧ St i h ∧ Fr base env.locals h m ∧ J i m h ∧ But (env.locals :: mu ++ wr) s.heap h) ?_ (n + 1)
    ⟨0, m, s.heap, s.toks, rfl, Nat.zero_le _, rfl, hst, F, h0, .refl _ _⟩
  rintro k s' ⟨i, m, h, tk, rfl, hi, rfl, hst, F, hj, hb⟩
  have go : ∀ h₁, (∀ b o, b ∉ wr → h.get? b = some o → h₁.get? b = some o) → Fr base env.locals h₁ m ∧ J i m h₁ ∧ But (env.locals :: mu ++ wr) s.heap h₁ := fun h₁ k₁ =>
    ⟨fr_but F (Ms := wr) k₁ hLw hwb, hJ _ _ _ _ hj fun a ha o e => k₁ a o (hmw a ha) e, hb.trans fun b o nb e => k₁ b o (fun q => nb (List.mem_append_right _ q)) e⟩
  by_cases hlt : i < n
  · refine W.item i _ _ _ hlt hst fun T vals h₁ tk₁ hPt hT hMid hk₁ => ?_
    obtain ⟨v0, v1, rfl, hP2⟩ := h2 i vals hPt
    refine W.go _ x1 pt i T _ _ _ hMid fun h₂ hst₂ hk₂ => ?_
    have k₂ : ∀ b o, b ∉ wr → h.get? b = some o → h₂.get? b = some o := fun b o nb e => hk₂ b o nb (hk₁ b o nb e)
    obtain ⟨F₂, j₂, b₂⟩ := go h₂ k₂
    have ht₂ : h₂.IsTuple T #[v0, v1] := hT.at fun o e => hk₂ T o (W.apart i T h₁ hMid) e
    refine assign_pair (s := { s with heap := h₂, toks := tk₁ }) hh F₂ ht₂ hxi hxc hp fun h₃ tk₃ F₃ b₃ => ?_
    have hst₃ : St (i + 1) h₃ := W.frame _ _ _ hst₂ fun b hbf o e => b₃ b o (fun q => hLf (List.mem_singleton.mp q ▸ hbf)) e
    have j₃ : J i m h₃ := hJ _ _ _ _ j₂ fun a ha o e => b₃ a o (fun q => hml a ha (List.mem_singleton.mp q)) e
    have b₃' : But (env.locals :: mu ++ wr) s.heap h₃ := b₂.trans (b₃.mono fun a ha => by rw [List.mem_singleton.mp ha]; simp)
    refine wpAny_mono (turn i v0 v1 m h₃ tk₃ hlt hP2 F₃ j₃ b₃') (fun f s₃ h₃' => ?_) fun _ _ x => x.elim
    have nx : (∃ m h tk, s₃ = { ({ s with heap := h₃, toks := tk₃ } : Shared) with heap := h, toks := tk } ∧ Fr base env.locals h m ∧ J (i + 1) m h ∧ But (env.locals :: mu) h₃ h) →
        ∃ m_1, m_1 < n + 1 - i ∧ ∃ i_1 m h tk, s₃ = { s with heap := h, toks := tk } ∧ i_1 ≤ n ∧ m_1 = n + 1 - i_1 ∧ St i_1 h ∧ Fr base env.locals h m ∧ J i_1 m h ∧ But (env.locals :: mu ++ wr) s.heap h := by
      rintro ⟨m', h', tk', rfl, F', j', b'⟩
      refine ⟨n + 1 - (i + 1), by omega, i + 1, m', h', tk', rfl, hlt, rfl, ?_, F', j', b₃'.trans (b'.mono fun a ha => List.mem_append_left _ ha)⟩
      refine W.frame _ _ _ hst₃ fun b hbf o e => b' b o ?_ e
      intro q
      rcases List.mem_cons.mp q with rfl | q
      · exact hLf hbf
      · exact hmf b q hbf
    cases f with
    | next => exact nx h₃'
    | cont => exact nx h₃'
    | brk => exact h₃'
    | ret v => exact h₃'
  · have hin : i = n := by omega
    subst hin
    refine W.done _ _ _ hst fun h₁ tk₁ k₁ => ?_
    obtain ⟨F₁, j₁, b₁⟩ := go h₁ k₁
    exact wpAny_mono (done m h₁ tk₁ F₁ j₁ b₁) (fun _ _ x => x) fun _ _ x => x.elim

theorem letGo_tupleiter {elts : List PySem.Expr} {x1 : Nat} {pos : Pos} {I l T : Addr} {i : Nat} {Q : Unit → Shared → Prop} {E : Value → Shared → Prop} (hit : s.heap.IsTupleIter I l i) (hQ : Q () s) :
    wpAny (MD w) A (letOwnedTupleGo (.Tuple elts x1 pos) (.ref I) (.ref T)) Q E s := by
  obtain ⟨⟨c, d, dt, sl⟩, ho, hc, hd⟩ := hit
  dsimp only at hc hd
  subst hc hd
  unfold letOwnedTupleGo
  refine wpAny_bind (wpAny_load ho ?_)
  exact wpAny_pure hQ
/-- a tuple of pairs -/
theorem walks_pairs (hh : A.handled = none) (I tb : Addr) (hne : tb ≠ I) (ps : List (Addr × Value × Value)) (hps : ∀ p ∈ ps, p.1 ≠ I) :
    WalksU PW w A I (I :: tb :: ps.map (·.1)) [I] ps.length (fun i vals => ∃ p, ps[i]? = some p ∧ vals = #[p.2.1, p.2.2])
      (fun i h => h.IsTupleIter I tb i ∧ h.IsTuple tb (ps.map fun p => Value.ref p.1).toArray ∧ ∀ p ∈ ps, h.IsTuple p.1 #[p.2.1, p.2.2])
      (fun i T h => (h.IsTupleIter I tb (i + 1) ∧ h.IsTuple tb (ps.map fun p => Value.ref p.1).toArray ∧ ∀ p ∈ ps, h.IsTuple p.1 #[p.2.1, p.2.2]) ∧ T ≠ I) where
  sub := fun b hb => by rw [List.mem_singleton.mp hb]; exact List.mem_cons_self ..
  frame := fun _ _ _ st hk => ⟨st.1.at fun o e => hk I (by simp) o e, st.2.1.at fun o e => hk tb (by simp) o e, fun p hp => (st.2.2 p hp).at fun o e => hk p.1 (List.mem_cons_of_mem _ (List.mem_cons_of_mem _ (List.mem_map_of_mem hp))) o e⟩
  item := fun i s Q E hi st hQ => by
    have hx : ((ps.map fun p => Value.ref p.1).toArray)[i]? = some (Value.ref ps[i].1) := by simp [hi]
    refine wpAny_pyNext_tuple_item st.1 st.2.1 hx fun h' hit' hs' => ?_
    have hk : ∀ b o, b ∉ [I] → s.heap.get? b = some o → h'.get? b = some o := fun b o hb e => hs'.extBut b o (fun q => hb (by simp [q])) e
    have hm : ps[i] ∈ ps := List.getElem_mem hi
    have all : ∀ p ∈ ps, h'.IsTuple p.1 #[p.2.1, p.2.2] := fun p hp => (st.2.2 p hp).at fun o e => hk p.1 o (by simpa using hps p hp) e
    exact hQ _ _ h' s.toks ⟨ps[i], List.getElem?_eq_getElem hi, rfl⟩ (all _ hm) ⟨⟨hit', st.2.1.at fun o e => hk tb o (by simpa using hne) e, all⟩, hps _ hm⟩ hk
  go := fun elts k pos i T s Q E hm hQ => letGo_tupleiter hm.1.1 (hQ _ hm.1 fun _ _ _ e => e)
  apart := fun i T h hm => by simpa using hm.2
  done := fun s Q E st hQ => wpAny_pyNext_tuple_end hh st.1 st.2.1 (by simp) fun h' he' => hQ h' s.toks fun b o hb e => he' b o (fun q => hb (by simp [q])) e
  self := fun _ _ _ _ st hQ => wpAny_pyIter_tupleiter st.1 hQ
end
end Mine

-- part F4
set_option Elab.async false
set_option maxRecDepth 100000
namespace Mine
def forBody : Stmt → List Stmt
  | .For _ _ b _ _ => b
  | _ => []
def forElse : Stmt → List Stmt
  | .For _ _ _ e _ => e
  | _ => []
noncomputable abbrev fmE (L : Addr) : Env := envOf (fName (stm 22)) (fScope (stm 22)) L 61 (.ref 60)
def fmOuter : Stmt := (fBody (stm 22)).getD 1 (.Pass nowhere)
def fmInner : Stmt := (forBody fmOuter).getD 0 (.Pass nowhere)

/-- what a turn of the inner loop asks -/
def hit (n idx bit : Int) : Bool := if idx == 0 then Builtin.bitAnd n 61440 == bit else Builtin.bitAnd n bit == bit
def pick (n idx : Int) : List (Int × Str) → Str
  | [] => if idx == 0 then Str.ofString "?" else Str.ofString "-"
  | (b, c) :: r => if hit n idx b then c else pick n idx r
theorem pick_skip {n idx : Int} : ∀ {qs : List (Int × Str)} {i : Nat}, (∀ q ∈ qs.take i, hit n idx q.1 = false) → pick n idx qs = pick n idx (qs.drop i)
  | [], _, _ => by rw [List.drop_nil]
  | q :: qs, 0, _ => by rw [List.drop_zero]
  | (b, c) :: qs, i + 1, h => by
    rw [pick, h (b, c) (by simp), if_neg Bool.false_ne_true, List.drop_succ_cons]
    exact pick_skip fun q hq => h q (by rw [List.take_succ_cons]; exact List.mem_cons_of_mem _ hq)

/-- a pair of the table: its place, the bit, the sign, their tokens -/
structure Pr where
  a : Addr
  bit : Int
  t : Tok
  ch : Str
  u : Tok
def Pr.v (q : Pr) : Addr × Value × Value := (q.a, .int q.bit q.t, .str q.ch q.u)
def Pr.p (q : Pr) : Int × Str := (q.bit, q.ch)

section
variable {w : World} {mg mb : Str → Option Value} {A : Around} {E : Value → Shared → Prop} {s : Shared} {base : Heap}

theorem base_none {L : Addr} {h : Heap} {m : Str → Option Value} (F : Fr base L h m) : base.get? L = none := by
  cases e : base.get? L with
  | none => rfl
  | some o => exact absurd (Nat.lt_of_lt_of_le (Heap.lt_size e) F.above) (Nat.lt_irrefl _)
theorem base_new {L : Addr} {h : Heap} {m : Str → Option Value} (F : Fr base L h m) {I : Addr} (hI : h.objs.size ≤ I) : base.get? I = none := by
  cases e : base.get? I with
  | none => rfl
  | some o => exact absurd (Nat.lt_of_lt_of_le (Heap.lt_size (F.keep _ _ e)) hI) (Nat.lt_irrefl _)
theorem L_lt {L : Addr} {h : Heap} {m : Str → Option Value} (F : Fr base L h m) : L < h.objs.size := F.ns.lt
theorem PlainList.lt {h : Heap} {P : Addr} {items : Array Value} (x : h.PlainList P items) : P < h.objs.size := let ⟨_, e⟩ := x; Heap.lt_size e

set_option maxHeartbeats 2000000 in
theorem fm_inner {L P tb : Addr} {items : Array Value} {m : Str → Option Value} {n idx : Int} {t1 t2 : Tok} {Q : Flow → Shared → Prop} (qs : List Pr) (R : Room A 1) (G : Gd w mg mb base) (F : Fr base L s.heap m) (hP : s.heap.PlainList P items) (hb : base.get? P = none) (hPL : P ≠ L)
    (htb : base.IsTuple tb (qs.map fun q => Value.ref q.a).toArray) (hps : ∀ q ∈ qs, base.IsTuple q.a #[.int q.bit q.t, .str q.ch q.u])
    (hmode : m (Str.ofString "mode") = some (.int n t1)) (hidx : m (Str.ofString "index") = some (.int idx t2)) (htab : m (Str.ofString "table") = some (.ref tb)) (hperm : m (Str.ofString "perm") = some (.ref P)) (hsz : items.size < 100)
    (h : ∀ m' h' tk u, (∀ x, x ≠ Str.ofString "bit" → x ≠ Str.ofString "char" → m' x = m x) → Fr base L h' m' → h'.PlainList P (items.push (.str (pick n idx (qs.map Pr.p)) u)) → But [L, P] s.heap h' → Q .next { s with heap := h', toks := tk }) :
    wpAny (MD w) A (exec fmInner (fmE L)) Q E s := by
  have hs : items.size ≤ sizeLine := by rw [sizeLine_eq]; omega
  refine wpAny_For (ld F htab (wpAny_pyIter_tuple (htb.at fun o e => F.keep _ o e) ?_))
  have hLb := base_none F
  have hIb : base.get? s.heap.objs.size = none := base_new F (Nat.le_refl _)
  have ne_of : ∀ {x y : Addr} {it}, base.get? x = none → base.IsTuple y it → x ≠ y := fun hx hy e => by
    obtain ⟨o, ho, _⟩ := hy; rw [← e, hx] at ho; cases ho
  have up : Grown s.heap (s.heap.push { cls := .type "tuple_iterator", data := .fields #[.ref tb, .int 0 0] }) := fun b o e => Heap.get?_push_of_some _ e
  have Fp : Fr base L (s.heap.push { cls := .type "tuple_iterator", data := .fields #[.ref tb, .int 0 0] }) m := F.push _
  have hitems : ((qs.map Pr.v).map fun p => Value.ref p.1).toArray = (qs.map fun q => Value.ref q.a).toArray := by simp [Pr.v, Function.comp_def]
  refine for_enum (base := base) (s := { s with heap := s.heap.push { cls := .type "tuple_iterator", data := .fields #[.ref tb, .int 0 0] } }) (m := m) (mu := [P])
    (P2 := fun i v0 v1 => ∃ q, qs[i]? = some q ∧ v0 = .int q.bit q.t ∧ v1 = .str q.ch q.u)
    (J := fun i m' h' => (∀ x, x ≠ Str.ofString "bit" → x ≠ Str.ofString "char" → m' x = m x) ∧ h'.PlainList P items ∧ ∀ q ∈ (qs.map Pr.p).take i, hit n idx q.1 = false)
    R.h (walks_pairs R.h s.heap.objs.size tb (fun e => ne_of hIb htb e.symm) (qs.map Pr.v) (by
      intro p hp
      obtain ⟨q, hq, rfl⟩ := List.mem_map.mp hp
      exact fun e => ne_of hIb (hps q hq) e.symm)) ?_ rfl rfl rfl ?_ ?_ ?_ ?_ ?_ ?_ Fp ?_ ?_ ?_
  · rintro i vals ⟨p, hp, rfl⟩
    rw [List.getElem?_map] at hp
    obtain ⟨q, hq, rfl⟩ := Option.map_eq_some_iff.mp hp
    exact ⟨_, _, rfl, q, hq, rfl, rfl⟩
  · intro hm
    rcases List.mem_cons.mp hm with e | hm
    · exact absurd (L_lt F) (by rw [show L = s.heap.objs.size from e]; exact Nat.lt_irrefl _)
    · rcases List.mem_cons.mp hm with e | hm
      · exact ne_of hLb htb e
      · rw [List.map_map] at hm
        obtain ⟨q, hq, e⟩ := List.mem_map.mp hm
        exact ne_of hLb (hps q hq) e.symm
  · intro a ha hm
    rw [List.mem_singleton.mp ha] at hm
    rcases List.mem_cons.mp hm with e | hm
    · exact absurd (PlainList.lt hP) (by rw [show P = s.heap.objs.size from e]; exact Nat.lt_irrefl _)
    · rcases List.mem_cons.mp hm with e | hm
      · exact ne_of hb htb e
      · rw [List.map_map] at hm
        obtain ⟨q, hq, e⟩ := List.mem_map.mp hm
        exact ne_of hb (hps q hq) e.symm
  · intro a ha; rw [List.mem_singleton.mp ha]; exact hPL
  · intro a ha; rw [List.mem_singleton.mp ha]; exact hIb
  · rintro i m' h' h'' ⟨c1, c2, c3⟩ hk
    exact ⟨c1, c2.at fun o e => hk P (by simp) o e, c3⟩
  · refine ⟨⟨_, Heap.get?_push_size _ rfl, rfl, rfl⟩, ?_, ?_⟩
    · rw [hitems]; exact (htb.at fun o e => up _ o (F.keep _ o e))
    · intro p hp
      obtain ⟨q, hq, rfl⟩ := List.mem_map.mp hp
      exact (hps q hq).at fun o e => up _ o (F.keep _ o e)
  · exact ⟨fun _ _ _ => rfl, hP.at fun o e => up _ o e, by simp⟩
  · rintro i v0 v1 m1 h1 tk1 hi ⟨q, hq, rfl, rfl⟩ F1 ⟨hm1, hP1, hno⟩ hbut
    have hin : i < qs.length := by simpa using hi
    have hqi : (qs.map Pr.p)[i]? = some (q.bit, q.ch) := by rw [List.getElem?_map, hq]; rfl
    generalize hM : (fun y => if y = Str.ofString "char" then some (Value.str q.ch q.u) else if y = Str.ofString "bit" then some (Value.int q.bit q.t) else m1 y) = M at F1
    have lk : ∀ x, x ≠ Str.ofString "bit" → x ≠ Str.ofString "char" → M x = m x := fun x a c => by rw [← hM]; show (if _ then _ else if _ then _ else _) = _; rw [if_neg c, if_neg a]; exact hm1 x a c
    have kch : M (Str.ofString "char") = some (.str q.ch q.u) := by rw [← hM]; rfl
    have kbit : M (Str.ofString "bit") = some (.int q.bit q.t) := by rw [← hM]; show (if _ then _ else if _ then _ else _) = _; rw [if_neg (by decide), if_pos rfl]
    have kmode := (lk (Str.ofString "mode") (by decide) (by decide)).trans hmode
    have kidx := (lk (Str.ofString "index") (by decide) (by decide)).trans hidx
    have kperm := (lk (Str.ofString "perm") (by decide) (by decide)).trans hperm
    have old : But [L, P] s.heap h1 := fun b o nb e => hbut b o (fun q => by
      rcases List.mem_append.mp q with q | q
      · exact nb q
      · rw [List.mem_singleton.mp q] at e; exact absurd (Heap.lt_size e) (Nat.lt_irrefl _)) (up b o e)
    have fin : ∀ h₃ tk₃, Fr base L h₃ M → h₃.PlainList P (items.push (.str q.ch q.u)) → But [L, P] h1 h₃ → hit n idx q.bit = true → Q .next { s with heap := h₃, toks := tk₃ } := fun h₃ tk₃ F₃ P₃ b₃ hh => by
      have e : pick n idx (qs.map Pr.p) = q.ch := by
        have hl : i < (qs.map Pr.p).length := by simpa using hin
        rw [pick_skip hno, List.drop_eq_getElem_cons hl]
        have : (qs.map Pr.p)[i]'hl = (q.bit, q.ch) := by
          have := List.getElem?_eq_getElem hl
          rw [hqi] at this; exact (Option.some.inj this).symm
        rw [this, pick, if_pos hh]
      exact h M h₃ tk₃ q.u lk F₃ (by rw [e]; exact P₃) (old.trans b₃)
    have nxt : ∀ h₂ tk₂, Fr base L h₂ M → h₂.PlainList P items → But [L, P] h1 h₂ → hit n idx q.bit = false →
        Turn base (fmE L).locals [P] (fun m' h' => (∀ x, x ≠ Str.ofString "bit" → x ≠ Str.ofString "char" → m' x = m x) ∧ h'.PlainList P items ∧ ∀ q ∈ (qs.map Pr.p).take (i + 1), hit n idx q.1 = false)
          (fun r s' => match r with | .ok f => Q f s' | .error e => cameBackBy (MD w) A (fmE L) E e s') { s with heap := h1, toks := tk1 } .next { s with heap := h₂, toks := tk₂ } := fun h₂ tk₂ F₂ P₂ b₂ hh => by
      refine ⟨M, h₂, tk₂, rfl, F₂, ⟨lk, P₂, ?_⟩, b₂⟩
      intro q' hq'
      rw [List.take_succ, hqi] at hq'
      rcases List.mem_append.mp hq' with hq' | hq'
      · exact hno q' hq'
      · rw [show q' = (q.bit, q.ch) by simpa using hq']; exact hh
    have app : ∀ h₂ tk₂ h₃, Grown h1 h₂ → h₃.PlainList P (items.push (.str q.ch q.u)) → Heap.SameBut P h₂ h₃ → hit n idx q.bit = true → Q .next { s with heap := h₃, toks := tk₂ } := fun h₂ tk₂ h₃ g₂ P₃ sb hh => by
      have b₃ : But [P] h₂ h₃ := But.of_same sb (by simp)
      exact fin h₃ tk₂ (fr_but (fr_at F1 (But.of_grown g₂)) b₃ (by simpa using fun q => hPL q.symm) (by simpa using hb)) P₃ ((But.of_grown g₂).trans (b₃.mono (by simp))) hh
    refine wpAny_execs_cons (wpAny_If (wpAny_isTrue_Compare1 (ld F1 kidx (wpAny_Constant_int (eq_int (wpAny_truthy_bool ?_))))))
    by_cases hz : (idx == 0) = true
    · rw [if_pos hz]
      refine wpAny_execs_cons (wpAny_If (wpAny_isTrue_Compare1 (Call_ (name_K (K := KW w) F1 G.X G.T (by kernel_rfl) (callWith_def (o := sh.o_13 w.params) rfl (args_cons (ld F1 kmode (args_nil ⟨F1.keep _ _ (G.X 21 _ rfl), ?_⟩))))))))
      refine c_ifmt (G.keeps F1.keep) R fun t h₂ tk₂ g₂ => ?_
      have F₂ := fr_at F1 (But.of_grown g₂)
      refine ld F₂ kbit (eq_int (wpAny_truthy_bool ?_))
      by_cases hh : (Builtin.bitAnd n 61440 == q.bit) = true
      · rw [if_pos hh]
        have hP₂ : h₂.PlainList P items := hP1.at fun o e => g₂ _ o e
        obtain ⟨pn, hpn⟩ := id hP₂
        refine wpAny_execs_cons (wpAny_Expr (MethodCall_ (ld F₂ kperm (getMethod_list_append hpn rfl rfl (callWith_method1 (args_cons (ld F₂ kch (args_nil (wpAny_list_append_plain (hsz := hs) hP₂ fun h₃ P₃ sb => ?_)))))))))
        refine wpAny_execs_cons (wpAny_Break ?_)
        exact app h₂ tk₂ h₃ g₂ P₃ sb (by rw [hit, if_pos hz]; exact hh)
      · rw [if_neg hh]
        refine wpAny_execs_nil (wpAny_execs_nil (wpAny_execs_nil ?_))
        exact nxt h₂ tk₂ F₂ (hP1.at fun o e => g₂ _ o e) (But.of_grown g₂) (by rw [hit, if_pos hz]; exact Bool.not_eq_true _ ▸ hh)
    · rw [if_neg hz]
      refine wpAny_execs_cons (wpAny_If (wpAny_isTrue_Compare1 (wpAny_BinOp (ld F1 kmode (ld F1 kbit (and_int (ld F1 kbit (eq_int (wpAny_truthy_bool ?_)))))))))
      by_cases hh : (Builtin.bitAnd n q.bit == q.bit) = true
      · rw [if_pos hh]
        obtain ⟨pn, hpn⟩ := id hP1
        refine wpAny_execs_cons (wpAny_Expr (MethodCall_ (ld F1 kperm (getMethod_list_append hpn rfl rfl (callWith_method1 (args_cons (ld F1 kch (args_nil (wpAny_list_append_plain (hsz := hs) hP1 fun h₃ P₃ sb => ?_)))))))))
        refine wpAny_execs_cons (wpAny_Break ?_)
        exact app h1 _ h₃ (.refl _) P₃ sb (by rw [hit, if_neg hz]; exact hh)
      · rw [if_neg hh]
        refine wpAny_execs_nil (wpAny_execs_nil (wpAny_execs_nil ?_))
        exact nxt h1 _ F1 hP1 (.refl _ _) (by rw [hit, if_neg hz]; exact Bool.not_eq_true _ ▸ hh)
  · rintro m1 h1 tk1 F1 ⟨hm1, hP1, hno⟩ hbut
    have kidx := (hm1 (Str.ofString "index") (by decide) (by decide)).trans hidx
    have kperm := (hm1 (Str.ofString "perm") (by decide) (by decide)).trans hperm
    have old : But [L, P] s.heap h1 := fun b o nb e => hbut b o (fun q => by
      rcases List.mem_append.mp q with q | q
      · exact nb q
      · rw [List.mem_singleton.mp q] at e; exact absurd (Heap.lt_size e) (Nat.lt_irrefl _)) (up b o e)
    have hpk : pick n idx (qs.map Pr.p) = if idx == 0 then Str.ofString "?" else Str.ofString "-" := by
      rw [pick_skip hno]
      have hd : (qs.map Pr.p).drop (qs.map Pr.v).length = [] := by simp
      rw [hd, pick]
    obtain ⟨pn, hpn⟩ := id hP1
    refine wpAny_execs_cons (wpAny_If (wpAny_isTrue_Compare1 (ld F1 kidx (wpAny_Constant_int (eq_int (wpAny_truthy_bool ?_))))))
    by_cases hz : (idx == 0) = true
    · rw [if_pos hz] at hpk ⊢
      refine wpAny_execs_cons (wpAny_Expr (MethodCall_ (ld F1 kperm (getMethod_list_append hpn rfl rfl (callWith_method1 (args_cons (wpAny_Constant_str (args_nil (wpAny_list_append_plain (hsz := hs) hP1 fun h₃ P₃ sb => ?_)))))))))
      have b₃ : But [P] h1 h₃ := But.of_same sb (by simp)
      refine wpAny_execs_nil (wpAny_execs_nil ?_)
      exact h m1 h₃ _ _ hm1 (fr_but F1 b₃ (by simpa using fun q => hPL q.symm) (by simpa using hb)) (by rw [hpk]; exact P₃) (old.trans (b₃.mono (by simp)))
    · rw [if_neg hz] at hpk ⊢
      refine wpAny_execs_cons (wpAny_Expr (MethodCall_ (ld F1 kperm (getMethod_list_append hpn rfl rfl (callWith_method1 (args_cons (wpAny_Constant_str (args_nil (wpAny_list_append_plain (hsz := hs) hP1 fun h₃ P₃ sb => ?_)))))))))
      have b₃ : But [P] h1 h₃ := But.of_same sb (by simp)
      refine wpAny_execs_nil (wpAny_execs_nil ?_)
      exact h m1 h₃ _ _ hm1 (fr_but F1 b₃ (by simpa using fun q => hPL q.symm) (by simpa using hb)) (by rw [hpk]; exact P₃) (old.trans (b₃.mono (by simp)))
end
end Mine

-- part F5
set_option Elab.async false
set_option maxRecDepth 100000
namespace Mine
def tabs : List (Addr × List Pr) := [(29, [⟨22, 40960, 206, Str.ofString "l", 234⟩, ⟨23, 49152, 208, Str.ofString "s", 235⟩, ⟨24, 32768, 202, Str.ofString "-", 236⟩, ⟨25, 24576, 200, Str.ofString "b", 237⟩, ⟨26, 16384, 196, Str.ofString "d", 238⟩, ⟨27, 8192, 198, Str.ofString "c", 239⟩, ⟨28, 4096, 204, Str.ofString "p", 240⟩]),
  (31, [⟨30, 256, 216, Str.ofString "r", 241⟩]),
  (33, [⟨32, 128, 218, Str.ofString "w", 242⟩]),
  (37, [⟨34, 2112, 243, Str.ofString "s", 244⟩, ⟨35, 2048, 210, Str.ofString "S", 245⟩, ⟨36, 64, 220, Str.ofString "x", 246⟩]),
  (39, [⟨38, 32, 222, Str.ofString "r", 247⟩]),
  (41, [⟨40, 16, 224, Str.ofString "w", 248⟩]),
  (45, [⟨42, 1032, 249, Str.ofString "s", 250⟩, ⟨43, 1024, 212, Str.ofString "S", 251⟩, ⟨44, 8, 226, Str.ofString "x", 252⟩]),
  (47, [⟨46, 4, 228, Str.ofString "r", 253⟩]),
  (49, [⟨48, 2, 230, Str.ofString "w", 254⟩]),
  (53, [⟨50, 513, 255, Str.ofString "t", 256⟩, ⟨51, 512, 214, Str.ofString "T", 257⟩, ⟨52, 1, 232, Str.ofString "x", 258⟩])]
/-- the ten signs -/
def fmTexts (n : Int) : List Str := tabs.zipIdx.map fun T => pick n T.2 (T.1.2.map Pr.p)
def fm (n : Int) : Str := Txt.join (Str.ofString "") (fmTexts n)
theorem pick_len {n idx : Int} : ∀ {qs : List (Int × Str)}, (∀ q ∈ qs, q.2.length = 1) → (pick n idx qs).length = 1
  | [], _ => by unfold pick; split <;> rfl
  | (b, c) :: qs, h => by
    unfold pick
    split
    · exact h (b, c) (List.mem_cons_self ..)
    · exact pick_len fun q hq => h q (List.mem_cons_of_mem _ hq)
theorem tabs_len : ∀ T ∈ tabs, ∀ q ∈ T.2.map Pr.p, q.2.length = 1 := by
  have h : (tabs.all fun T => (T.2.map Pr.p).all fun q => q.2.length == 1) = true := by decide +kernel
  intro T hT q hq
  exact beq_iff_eq.mp (List.all_eq_true.mp (List.all_eq_true.mp h T hT) q hq)
theorem fmTexts_len (n : Int) : ∀ x ∈ fmTexts n, x.length = 1 := by
  intro x hx
  obtain ⟨T, hT, rfl⟩ := List.mem_map.mp hx
  exact pick_len (tabs_len T.1 (List.fst_mem_of_mem_zipIdx hT))
theorem fmTexts_length (n : Int) : (fmTexts n).length = 10 := by simp [fmTexts, tabs]
theorem sum_ones : ∀ {l : List Str}, (∀ x ∈ l, x.length = 1) → (l.map (·.length)).sum = l.length
  | [], _ => rfl
  | x :: l, h => by rw [List.map_cons, List.sum_cons, h x (List.mem_cons_self ..), sum_ones fun y hy => h y (List.mem_cons_of_mem _ hy), List.length_cons]; omega
def tupObj (vs : List Value) : Obj := { cls := .type "tuple", data := .seq vs.toArray }
theorem tup_of {h : Heap} {a : Addr} {vs : List Value} (e : h.get? a = some (tupObj vs)) : h.IsTuple a vs.toArray := ⟨_, e, rfl, 0, rfl⟩
section
variable {w : World} {mg mb : Str → Option Value} {A : Around} {E : Value → Shared → Prop} {s : Shared} {base : Heap} {Q : Value → Shared → Prop}
theorem tabs_in (G : Gd w mg mb base) : ∀ T ∈ tabs, base.IsTuple T.1 (T.2.map fun q => Value.ref q.a).toArray ∧ ∀ q ∈ T.2, base.IsTuple q.a #[.int q.bit q.t, .str q.ch q.u] := by
  have h1 : tabs.map (fun T => (KW w).lookup T.1) = tabs.map (fun T => some (tupObj (T.2.map fun q => Value.ref q.a))) := by kernel_rfl
  have h2 : tabs.map (fun T => T.2.map fun q => (KW w).lookup q.a) = tabs.map (fun T => T.2.map fun q => some (tupObj [.int q.bit q.t, .str q.ch q.u])) := by kernel_rfl
  intro T hT
  refine ⟨tup_of (G.X _ _ (List.map_inj_left.mp h1 T hT)), fun q hq => ?_⟩
  exact tup_of (vs := [.int q.bit q.t, .str q.ch q.u]) (G.X _ _ (List.map_inj_left.mp (List.map_inj_left.mp h2 T hT) q hq))
theorem tab54_in (G : Gd w mg mb base) : base.IsTuple 54 (tabs.map fun T => Value.ref T.1).toArray :=
  tup_of (G.X 54 (tupObj (tabs.map fun T => Value.ref T.1)) (by kernel_rfl))

theorem stB {M : Model} {A : Around} {E : Value → Shared → Prop} {s : Shared} {base : Heap} {name : Str} {scope : Scope} {L a : Addr} {cd : Value} {m : Str → Option Value} {x : Str} {v : Value} {Q : Unit → Shared → Prop} (F : Fr base L s.heap m)
    (h : ∀ h', Fr base L h' (fun y => if y = x then some v else m y) → But [L] s.heap h' → Q () { s with heap := h', toks := s.toks + 1 })
    (hk : scope.kind = .function := by rfl) (hl : (envOf name scope L a cd).kindOf x = some .local := by rfl) : wpAny M A (storeName (envOf name scope L a cd) x v) Q E s :=
  wpAny_storeName_local hl F.ns (fun h' hn hs => h h' (F.set hn hs) (But.of_same (l := L) hs (by simp)))
    (by show (scope.kind == .class || (scope.kind == .module && L != mainGlobals)) = false; rw [hk]; rfl)

set_option maxHeartbeats 2000000 in
theorem c_filemode {n : Int} {t : Tok} (G : Gd w mg mb s.heap) (R : Room A 2) (h : ∀ t h' tk, Grown s.heap h' → Q (.str (fm n) t) { s with heap := h', toks := tk }) :
    wpAny (MD w) A (call (.ref 61) [.int n t]) Q E s := by
  refine call_fn (f := 61) (c := 60) (name := fName (stm 22)) (params := fParams (stm 22)) (body := fBody (stm 22)) (scope := fScope (stm 22)) [(Str.ofString "mode", .int n t)] G (by have := R.d; omega) rfl rfl (by kernel_rfl) rfl (locs rfl) (fun h₁ F => ?_) rfl rfl rfl (by decide +kernel)
  generalize hbase : s.heap = base at F G h
  have hLb := base_none F
  have RA : Room (A.deeper (fmE base.objs.size)) 1 := R.deeper
  generalize A.deeper (fmE base.objs.size) = A' at RA ⊢
  have kmode : (fun x => List.lookup x (List.reverse [(Str.ofString "mode", Value.int n t)])) (Str.ofString "mode") = some (.int n t) := by rfl
  generalize (fun x => List.lookup x (List.reverse [(Str.ofString "mode", Value.int n t)])) = m0 at F kmode
  generalize hL : base.objs.size = L at F hLb ⊢
  refine wpAny_execs_cons (wpAny_Assign_Name (List_ (args_nil (wpAny_newList ?_ (by size_fits)))))
  have FP := F.push { cls := .type "list", data := .seq ([] : List Value).toArray }
  refine stB FP fun h₂ F₂ b₂ => ?_
  have hPn : h₁.objs.size ≠ L := fun e => absurd (L_lt F) (by rw [e]; exact Nat.lt_irrefl _)
  have hPb : base.get? h₁.objs.size = none := base_new F (Nat.le_refl _)
  have hP₂ : h₂.PlainList h₁.objs.size #[] := ⟨0, b₂ _ _ (by simpa using hPn) (Heap.get?_push_size _ rfl)⟩
  generalize h₁.objs.size = P at F₂ hPn hPb hP₂ ⊢
  have kperm : (fun y => if y = Str.ofString "perm" then some (Value.ref P) else m0 y) (Str.ofString "perm") = some (.ref P) := by rfl
  have kmode2 : (fun y => if y = Str.ofString "perm" then some (Value.ref P) else m0 y) (Str.ofString "mode") = some (.int n t) := by show (if _ then _ else _) = _; rw [if_neg (by decide)]; exact kmode
  generalize (fun y => if y = Str.ofString "perm" then some (Value.ref P) else m0 y) = m2 at F₂ kperm kmode2
  refine wpAny_execs_cons (wpAny_For (Call_ (name_B (K := KW w) F₂ G.X G.T (by kernel_rfl) (by boot_by_name) (by decide) (callWith_type1 (args_cons (name_K (K := KW w) F₂ G.X G.T (by kernel_rfl) (args_nil (call_enum_tuple ((tab54_in G).at fun o e => F₂.keep _ o e) fun h₃ hE hI hz up => wpAny_pyIter_enum hE ?_))))))))
  dsimp only at hE hI hz up ⊢
  have F₃ := fr_at F₂ (But.of_grown up)
  have hit : base.get? h₂.objs.size = none := base_new F₂ (Nat.le_refl _)
  have hen : base.get? (h₂.objs.size + 1) = none := base_new F₂ (Nat.le_succ _)
  have tab54 := tab54_in G
  have ne_of : ∀ {x y : Addr} {it}, base.get? x = none → base.IsTuple y it → x ≠ y := fun hx hy e => by
    obtain ⟨o, ho, _⟩ := hy; rw [← e, hx] at ho; cases ho
  have hlen : ((tabs.map fun T => Value.ref T.1).toArray).size = 10 := by rfl
  have hfl : (fmTexts n).length = 10 := by simp [fmTexts, tabs]
  have D := draws_tuple (prog := PW) (w := w) (A := A'.in1) RA.h h₂.objs.size 54 (fun e => ne_of hit tab54 e.symm) (tabs.map fun T => Value.ref T.1).toArray
  have W := (WalksT.enumerateD D (h₂.objs.size + 1) (Nat.succ_ne_self _) (by
    intro hm
    rcases List.mem_cons.mp hm with e | hm
    · exact Nat.succ_ne_self _ e
    · exact ne_of hen tab54 (List.mem_singleton.mp hm)) (List.mem_cons_self ..)).toU
  rw [hlen] at W
  have hPlt : P < h₂.objs.size := PlainList.lt hP₂
  have hLlt : L < h₂.objs.size := L_lt F₂
  refine for_enum (base := base) (s := { s with heap := h₃, toks := _ }) (m := m2) (mu := [P]) (P2 := fun i v0 v1 => ∃ T t, tabs[i]? = some T ∧ v0 = .int i t ∧ v1 = .ref T.1)
    (J := fun i m' h' => m' (Str.ofString "mode") = some (.int n t) ∧ m' (Str.ofString "perm") = some (.ref P) ∧ ∃ l : List (Str × Tok), h'.PlainList P (strValues l).toArray ∧ l.map (·.1) = (fmTexts n).take i)
    RA.h W ?_ rfl rfl rfl ?_ ?_ ?_ ?_ ?_ ?_ F₃ ?_ ?_ ?_
  · rintro i vals ⟨t', x, hx, rfl⟩
    have hx' : (tabs.map fun T => Value.ref T.1)[i]? = some x := by simpa using hx
    rw [List.getElem?_map] at hx'
    obtain ⟨T, hT, rfl⟩ := Option.map_eq_some_iff.mp hx'
    exact ⟨_, _, rfl, T, t', hT, rfl, rfl⟩
  · intro hm
    rcases List.mem_cons.mp hm with e | hm
    · exact absurd hLlt (by rw [show L = h₂.objs.size + 1 from e]; omega)
    · rcases List.mem_cons.mp hm with e | hm
      · exact absurd hLlt (by rw [show L = h₂.objs.size from e]; omega)
      · exact ne_of hLb tab54 (List.mem_singleton.mp hm)
  · intro a ha hm
    rw [List.mem_singleton.mp ha] at hm
    rcases List.mem_cons.mp hm with e | hm
    · exact absurd hPlt (by rw [show P = h₂.objs.size + 1 from e]; omega)
    · rcases List.mem_cons.mp hm with e | hm
      · exact absurd hPlt (by rw [show P = h₂.objs.size from e]; omega)
      · exact ne_of hPb tab54 (List.mem_singleton.mp hm)
  · intro a ha; rw [List.mem_singleton.mp ha]; exact hPn
  · intro a ha
    rcases List.mem_cons.mp ha with rfl | ha
    · exact hen
    · rw [List.mem_singleton.mp ha]; exact hit
  · rintro i m' h' h'' ⟨c1, c2, l, c3, c4⟩ hk
    exact ⟨c1, c2, l, c3.at fun o e => hk P (by simp) o e, c4⟩
  · exact ⟨⟨_, hE⟩, hI, tab54.at fun o e => F₃.keep _ o e⟩
  · exact ⟨kmode2, kperm, [], hP₂.at fun o e => up _ o e, by simp⟩
  · rintro i v0 v1 m3 h4 tk4 hi ⟨T, t', hT, rfl, rfl⟩ F4 ⟨c1, c2, l, c3, c4⟩ hbut
    have hTm : T ∈ tabs := List.mem_of_getElem? hT
    obtain ⟨q1, q2⟩ := tabs_in G T hTm
    have hll : l.length = min i 10 := by have := congrArg List.length c4; simpa [hfl] using this
    refine wpAny_execs_cons (fm_inner (base := base) (L := L) (P := P) (tb := T.1) (items := (strValues l).toArray) (n := n) (idx := i) (t1 := t) (t2 := t') T.2 RA G F4 c3 hPb hPn q1 q2 ?_ ?_ ?_ ?_ ?_ fun m5 h5 tk5 u hm5 F5 P5 b5 => ?_)
    · show (if _ then _ else if _ then _ else _) = _; rw [if_neg (by decide), if_neg (by decide)]; exact c1
    · show (if _ then _ else if _ then _ else _) = _; rw [if_neg (by decide), if_pos rfl]
    · show (if _ then _ else _) = _; rw [if_pos rfl]
    · show (if _ then _ else if _ then _ else _) = _; rw [if_neg (by decide), if_neg (by decide)]; exact c2
    · simp [strValues]; omega
    · refine wpAny_execs_nil ⟨m5, h5, tk5, rfl, F5, ⟨?_, ?_, l ++ [(pick n i (T.2.map Pr.p), u)], ?_, ?_⟩, b5⟩
      · rw [hm5 _ (by decide) (by decide)]; show (if _ then _ else if _ then _ else _) = _; rw [if_neg (by decide), if_neg (by decide)]; exact c1
      · rw [hm5 _ (by decide) (by decide)]; show (if _ then _ else if _ then _ else _) = _; rw [if_neg (by decide), if_neg (by decide)]; exact c2
      · have e : (strValues (l ++ [(pick n i (T.2.map Pr.p), u)])).toArray = (strValues l).toArray.push (.str (pick n i (T.2.map Pr.p)) u) := by simp [strValues]
        rw [e]; exact P5
      · rw [List.map_append, c4, List.take_succ]
        have : (fmTexts n)[i]? = some (pick n i (T.2.map Pr.p)) := by
          unfold fmTexts
          rw [List.getElem?_map, List.getElem?_zipIdx, hT]
          simp
        rw [this]; rfl
  · rintro m3 h4 tk4 F4 ⟨c1, c2, l, c3, c4⟩ hbut
    refine wpAny_execs_nil ?_
    have c5 : l.map (·.1) = fmTexts n := by rw [c4, List.take_of_length_le (by rw [hfl]; decide)]
    refine wpAny_execs_cons (wpAny_Return_some (MethodCall_ (wpAny_Constant_str (GM.join (callWith_method1 (args_cons (ld F4 c2 (args_nil (SC.join c3.isList c5 ?_ fun t' k => ?_)))))))))
    · exact joinOk_of_weight (by rw [sum_ones (fmTexts_len n), fmTexts_length]; decide) (by decide)
    · exact h _ _ _ F4.keep
end
end Mine

-- part F6
set_option Elab.async false
set_option maxRecDepth 100000
namespace Mine
/-- entries that bear these pairs -/
inductive Bears : List DictEntry → List (Int × Str) → Prop
  | nil : Bears [] []
  | cons {k : Int} {x : Str} {t u : Tok} {es : List DictEntry} {l : List (Int × Str)} : Bears es l → Bears (⟨k, .int k t, .str x u⟩ :: es) ((k, x) :: l)
theorem Bears.append {a c : List DictEntry} {l r : List (Int × Str)} (h : Bears a l) (h' : Bears c r) : Bears (a ++ c) (l ++ r) := by
  induction h with
  | nil => exact h'
  | cons _ ih => exact .cons ih
theorem bears_ents (tk : Nat) (l : List (Int × Str)) : Bears (ents tk l) l := by
  induction l generalizing tk with
  | nil => exact .nil
  | cons x l ih => exact .cons (ih _)
theorem bears_entsS (tk : Nat) (l : List (Int × Str)) : Bears (entsS tk l) l := by
  induction l generalizing tk with
  | nil => exact .nil
  | cons x l ih => exact .cons (ih _)
theorem bears_entsAll (tk : Nat) (cs : List (List (Int × Str))) : Bears (entsAll tk cs) cs.flatten := by
  induction cs generalizing tk with
  | nil => exact .nil
  | cons c cs ih => exact (bears_ents _ _).append (ih _)
theorem Bears.keys {es : List DictEntry} {l : List (Int × Str)} (h : Bears es l) (hr : ∀ x ∈ l.map (·.1), 0 ≤ x ∧ x < 2 ^ 60) : ∀ e ∈ es, ∃ k t, e.key = .int k t ∧ e.hash = hashInt k := by
  induction h with
  | nil => intro e he; cases he
  | cons _ ih =>
    rename_i k x t u es l _
    intro e he
    rcases List.mem_cons.mp he with rfl | he
    · have := hr k (by simp)
      exact ⟨k, t, rfl, (hashInt_small this.1 this.2).symm⟩
    · exact ih (fun y hy => hr y (by rw [List.map_cons]; exact List.mem_cons_of_mem _ hy)) e he
theorem Bears.find {es : List DictEntry} {l : List (Int × Str)} (h : Bears es l) (c : Int) : ∃ u, (es.find? fun e => Value.isInt c e.key).map (·.val) = ((l.find? fun x => x.1 == c).map (·.2)).map (fun x => Value.str x u) := by
  induction h with
  | nil => exact ⟨0, rfl⟩
  | cons _ ih =>
    rename_i k x t u es l _
    by_cases hk : (k == c) = true
    · refine ⟨u, ?_⟩
      rw [List.find?_cons_of_pos (by exact hk), List.find?_cons_of_pos (by exact hk)]; rfl
    · obtain ⟨u', e⟩ := ih
      refine ⟨u', ?_⟩
      rw [List.find?_cons_of_neg (by exact hk), List.find?_cons_of_neg (by exact hk)]; exact e

/-- what map_table_b3 hands back -/
def b3look (c : Int) : Option Str := (pairs.find? fun x => x.1 == c).map (·.2)
def b3 (c : Nat) : Str := (b3look c).getD (Txt.lower ⟨#[c]⟩)

section
variable {w : World} {mg mb : Str → Option Value} {A : Around} {E : Value → Shared → Prop} {s : Shared} {base : Heap} {Q : Value → Shared → Prop}
theorem dMain_map {h : Heap} (X : (KW w).In h) : ∃ f : Int → Option Value, h.MapOf (intKind PW w) 62 f ∧ ∀ c : Int, ∃ u, f c = (b3look c).map fun x => Value.str x u := by
  have hb : Bears (ents 274 dC ++ entsAll 325 dcs ++ entsS 2212 dT) pairs := by
    have := ((bears_ents 274 dC).append (bears_entsAll 325 dcs)).append (bears_entsS 2212 dT)
    have e : dC ++ dcs.flatten ++ dT = pairs := by rw [List.append_assoc, ← dSplit]; rfl
    rw [e] at this
    exact this
  have hr : ∀ x ∈ pairs.map (·.1), 0 ≤ x ∧ x < 2 ^ 60 := by
    have := dRise.2
    rw [← dSplit] at this
    exact this
  refine ⟨findBy Value.isInt (ents 274 dC ++ entsAll 325 dcs ++ entsS 2212 dT).toArray, ⟨dMain, _, 650, X 62 dMain (by kernel_rfl), ⟨rfl, rfl, rfl⟩, rfl, ?_, fun _ => rfl⟩, fun c => ?_⟩
  · intro e he
    obtain ⟨k, t, h1, h2⟩ := hb.keys hr e (by simpa using he)
    exact ⟨k, by rw [h1]; show (k == k) = true; simp, h2⟩
  · obtain ⟨u, e⟩ := hb.find c
    exact ⟨u, by unfold findBy b3look; rw [← e]; simp⟩

set_option maxHeartbeats 1000000 in
theorem c_b3 {c : Nat} {t : Tok} (G : Gd w mg mb s.heap) (R : Room A 1) (hfit : (Txt.lower ⟨#[c]⟩).length ≤ 100) (h : ∀ t h' tk, Grown s.heap h' → Q (.str (b3 c) t) { s with heap := h', toks := tk }) :
    wpAny (MD w) A (call (.ref 107) [.str ⟨#[c]⟩ t]) Q E s := by
  refine call_fn (f := 107) (c := 106) (name := fName (stm 25)) (params := fParams (stm 25)) (body := fBody (stm 25)) (scope := fScope (stm 25)) [(Str.ofString "code", .str ⟨#[c]⟩ t)] G (by have := R.d; omega) rfl rfl (by kernel_rfl) rfl (locs rfl) (fun h₁ F => ?_) rfl rfl rfl (by decide +kernel)
  obtain ⟨f, hm, hf⟩ := dMain_map (G.X.keeps F.keep)
  obtain ⟨u, hu⟩ := hf c
  have hT := fun tk => hm.typeIs (s := { s with heap := h₁, toks := tk })
  refine wpAny_execs_cons (wpAny_Assign_Name (MethodCall_ (name_K (K := KW w) F G.X G.T (by kernel_rfl) (getMethod_builtin (hT _) PySem.F.plainAttrs_dict PySem.F.slot_dict_get PySem.F.type_dict_get hm.noDict (callWith_method1 (args_cons (Call_ (name_B (K := KW w) F G.X G.T (by kernel_rfl) (by boot_by_name) (by decide) (callWith_builtin1 (args_cons (ld F rfl (args_nil (P.ord_of_char (args_nil ?_))))))))))))))
  refine call_meetsIn PySem.F.slot_dict_get (hT _) PySem.F.entry_dict_get (PySem.F.args_dict_get_2 _ _) (meets_dict_get (intKind PW w) 62 (k := (c : Int)) (by show ((c : Int) == c) = true; simp) rfl) ⟨f, hm, ?_⟩
  show wpAny _ _ _ _ _ _
  rw [hu]
  cases hl : b3look c with
  | none =>
    refine stB F fun h₂ F₂ b₂ => ?_
    refine wpAny_execs_cons (wpAny_If (wpAny_isTrue_Compare1 (ld F₂ rfl (wpAny_Constant_none (wpAny_isNot_self rfl (wpAny_truthy_bool ?_))))))
    rw [if_neg Bool.false_ne_true]
    refine wpAny_execs_nil (wpAny_execs_cons (wpAny_Return_some (MethodCall_ (ld F₂ rfl (GM.lower (callWith_method0 (SC.lower ?_ ?_)))))))
    · show decide (_ > sizeLine) = false
      rw [sizeLine_eq, decide_eq_false_iff_not]; omega
    · have e : b3 c = Txt.lower ⟨#[c]⟩ := by unfold b3; rw [hl]; rfl
      rw [← e]
      exact h _ _ _ F₂.keep
  | some x =>
    refine stB F fun h₂ F₂ b₂ => ?_
    refine wpAny_execs_cons (wpAny_If (wpAny_isTrue_Compare1 (ld F₂ rfl (wpAny_Constant_none (wpAny_isNot_other rfl (by intro e; cases e) (wpAny_truthy_bool ?_))))))
    rw [if_pos rfl]
    refine wpAny_execs_cons (wpAny_Return_some (ld F₂ rfl ?_))
    have e : b3 c = x := by unfold b3; rw [hl]; rfl
    rw [← e]
    exact h _ _ _ F₂.keep
end
end Mine

-- part F7
set_option Elab.async false
set_option maxRecDepth 100000
namespace Mine
/-- the ten alphabets -/
def alph : List Int := [0, 1, 2, 4, 7, 8, 9, 10, 11, 12]
def laid (c : Nat) (f : Int) : Nat := if c < 65 ∨ f = 0 then c else if f = 1 then 64 + c % 32 else (119807 + 52 * alph.getD (f - 2).toNat 0).toNat + c % 32
section
variable {w : World} {mg mb : Str → Option Value} {A : Around} {E : Value → Shared → Prop} {s : Shared} {base : Heap} {Q : Value → Shared → Prop}
theorem fmod32 (c : Nat) : ((c : Int).fmod 32) = ((c % 32 : Nat) : Int) := by
  rw [Int.fmod_eq_emod_of_nonneg _ (by decide)]; omega
theorem list_item {M : Model} {value slice : PySem.Expr} {l : Addr} {items : Array Value} {k : Int} {u : Tok} {v : Value} (hl : s.heap.IsList l items) (h0 : 0 ≤ k) (hhi : k < 2 ^ 63) (hx : items[k.toNat]? = some v) (h : Q v s)
    (hs : subscripted slice false (.ref l) (.int k u) = operate [.ref l, .int k u] (getItem (.ref l) (.int k u)) := by with_unfolding_all rfl) :
    wpAny (MD w) A (subscriptTail value slice (.ref l) (.int k u)) Q E s :=
  tail_any hl.typeIs slot_list_getitem.lookup (wpAny_getItem_list hl h0 hhi hx h) hs

theorem newListB {A : Around} {items : List Value} (hsz : items.length ≤ 1000) (h : ∀ h' P, Grown s.heap h' → h'.PlainList P items.toArray → s.heap.get? P = none → Q (.ref P) { s with heap := h' }) : wpAny (MD w) A (newList items) Q E s := by
  refine wpAny_newList (h _ _ (fun b o e => Heap.get?_push_of_some _ e) ⟨0, Heap.get?_push_size _ rfl⟩ ?_) (by rw [sizeLine_eq]; omega)
  cases e : s.heap.get? s.heap.objs.size with
  | none => rfl
  | some o => exact absurd (Heap.lt_size e) (Nat.lt_irrefl _)

noncomputable abbrev laidE (L : Addr) : Env := envOf (fName (stm 27)) (fScope (stm 27)) L 114 (.ref 113)
def laidLast : Stmt := (fBody (stm 27)).getD 3 (.Pass nowhere)
theorem alph_at {f : Int} (h2 : 2 ≤ f) (h12 : f < 12) {x : Nat → Tok} : ∃ v tk, alph.getD (f - 2).toNat 0 = v ∧ 0 ≤ v ∧ v ≤ 12 ∧
    ([.int 0 (x 0), .int 1 (x 1), .int 2 (x 2), .int 4 (x 3), .int 7 (x 4), .int 8 (x 5), .int 9 (x 6), .int 10 (x 7), .int 11 (x 8), .int 12 (x 9)] : List Value).toArray[(f - 2).toNat]? = some (Value.int v tk) := by
  have hcase : f = 2 ∨ f = 3 ∨ f = 4 ∨ f = 5 ∨ f = 6 ∨ f = 7 ∨ f = 8 ∨ f = 9 ∨ f = 10 ∨ f = 11 := by omega
  rcases hcase with rfl | rfl | rfl | rfl | rfl | rfl | rfl | rfl | rfl | rfl <;> exact ⟨_, _, rfl, by decide, by decide, rfl⟩
set_option maxHeartbeats 800000 in
theorem laid_tail {L : Addr} {m : Str → Option Value} {c : Nat} {f : Int} {tc u : Tok} {Q : Flow → Shared → Prop} (G : Gd w mg mb base) (F : Fr base L s.heap m) (kc : m (Str.ofString "code") = some (.int c tc)) (kf : m (Str.ofString "form") = some (.int f u)) (h2 : 2 ≤ f) (h12 : f < 12)
    (h : ∀ N t h' tk, N = (119807 + 52 * alph.getD (f - 2).toNat 0).toNat + c % 32 → Grown s.heap h' → Q (.ret (.str ⟨#[N]⟩ t)) { s with heap := h', toks := tk }) :
    wpAny (MD w) A (exec laidLast (laidE L)) Q E s := by
  refine wpAny_Return_some ?_
  refine Call_ ?_ ?_
  rotate_left
  · rfl
  refine name_B (K := KW w) F G.X G.T (by kernel_rfl) (by boot_by_name) (by decide) ?_
  refine callWith_builtin1 ?_ ?_ ?_
  rotate_left
  · rfl
  · rfl
  refine args_cons ?_ ?_
  rotate_left
  · rfl
  refine wpAny_BinOp ?_
  refine wpAny_BinOp ?_
  refine wpAny_Constant_int ?_
  refine wpAny_BinOp ?_
  refine wpAny_Constant_int ?_
  refine Subscript_ ?_
  refine List_ ?_
  refine args_cons ?_ ?_
  rotate_left
  · rfl
  refine wpAny_Constant_int ?_
  refine args_cons ?_ ?_
  rotate_left
  · rfl
  refine wpAny_Constant_int ?_
  refine args_cons ?_ ?_
  rotate_left
  · rfl
  refine wpAny_Constant_int ?_
  refine args_cons ?_ ?_
  rotate_left
  · rfl
  refine wpAny_Constant_int ?_
  refine args_cons ?_ ?_
  rotate_left
  · rfl
  refine wpAny_Constant_int ?_
  refine args_cons ?_ ?_
  rotate_left
  · rfl
  refine wpAny_Constant_int ?_
  refine args_cons ?_ ?_
  rotate_left
  · rfl
  refine wpAny_Constant_int ?_
  refine args_cons ?_ ?_
  rotate_left
  · rfl
  refine wpAny_Constant_int ?_
  refine args_cons ?_ ?_
  rotate_left
  · rfl
  refine wpAny_Constant_int ?_
  refine args_cons ?_ ?_
  rotate_left
  · rfl
  refine wpAny_Constant_int ?_
  refine args_nil ?_
  refine newListB (by simp) fun h₃ lp g₃ l₃ n₃ => ?_
  have F₃ := fr_at F (But.of_grown g₃)
  refine Exists.elim (alph_at h2 h12 (x := fun i => s.toks + 1 + 1 + i)) fun v hA => ?_
  refine Exists.elim hA fun tk hA => ?_
  have hv := hA.1
  have v0 := hA.2.1
  have v12 := hA.2.2.1
  have hx := hA.2.2.2
  clear hA
  refine wpAny_BinOp ?_
  refine ld F₃ kf ?_
  refine wpAny_Constant_int ?_
  refine sub_int ?_
  refine list_item (M := MD w) l₃.isList (by omega) (by omega) hx ?_ ?_
  rotate_left
  · rfl
  refine mul_int ?_ (IntMulOk.of_left (by decide))
  refine add_int ?_
  refine wpAny_BinOp ?_
  refine ld F₃ kc ?_
  refine wpAny_Constant_int ?_
  refine mod_int (by decide) ?_
  refine add_int ?_
  refine args_nil ?_
  refine P.chr_of_int ?_ ?_
  · rw [fmod32]; simp; omega
  · have e : (119807 + 52 * v + (c : Int).fmod 32).toNat = (119807 + 52 * alph.getD (f - 2).toNat 0).toNat + c % 32 := by rw [fmod32, hv]; omega
    exact h _ _ _ _ e g₃

set_option maxHeartbeats 800000 in
theorem c_laid {c : Nat} {f : Int} {t u : Tok} (G : Gd w mg mb s.heap) (R : Room A 1) (h0 : 0 ≤ f) (h12 : f < 12) (h : ∀ t h' tk, Grown s.heap h' → Q (.str ⟨#[laid c f]⟩ t) { s with heap := h', toks := tk }) :
    wpAny (MD w) A (call (.ref 114) [.str ⟨#[c]⟩ t, .int f u]) Q E s := by
  refine call_fn (f := 114) (c := 113) (name := fName (stm 27)) (params := fParams (stm 27)) (body := fBody (stm 27)) (scope := fScope (stm 27)) [(Str.ofString "sign", .str ⟨#[c]⟩ t), (Str.ofString "form", .int f u)] G (by have := R.d; omega) rfl rfl (by kernel_rfl) rfl (locs rfl) (fun h₁ F => ?_) rfl rfl rfl (by decide +kernel)
  refine wpAny_execs_cons (wpAny_Assign_Name (Call_ (name_B (K := KW w) F G.X G.T (by kernel_rfl) (by boot_by_name) (by decide) (callWith_builtin1 (args_cons (ld F rfl (args_nil (P.ord_of_char (stB F fun h₂ F₂ b₂ => ?_)))))))))
  refine wpAny_execs_cons (wpAny_If (isTrue_or (wpAny_isTrue_Compare1 (ld F₂ rfl (wpAny_Constant_int (lt_int (wpAny_truthy_bool ?_)))))))
  by_cases hc : c < 65
  · rw [if_pos (by simp; omega), if_pos rfl]
    refine wpAny_execs_cons (wpAny_Return_some (ld F₂ rfl ?_))
    have e : laid c f = c := if_pos (.inl hc)
    rw [← e]; exact h _ _ _ F₂.keep
  rw [if_neg (by simp; omega)]
  refine isTrue_or (wpAny_isTrue_Compare1 (ld F₂ rfl (wpAny_Constant_int (eq_int (wpAny_truthy_bool ?_)))))
  by_cases hf : f = 0
  · rw [if_pos (by simpa using hf), if_pos rfl]
    refine wpAny_execs_cons (wpAny_Return_some (ld F₂ rfl ?_))
    have e : laid c f = c := if_pos (.inr hf)
    rw [← e]; exact h _ _ _ F₂.keep
  rw [if_neg (by simpa using hf)]
  refine isTrue_or_nil ?_
  rw [if_neg Bool.false_ne_true]
  have hnot : ¬ (c < 65 ∨ f = 0) := by omega
  refine wpAny_execs_nil (wpAny_execs_cons (wpAny_If (wpAny_isTrue_Compare1 (ld F₂ rfl (wpAny_Constant_int (eq_int (wpAny_truthy_bool ?_)))))))
  by_cases hf1 : f = 1
  · rw [if_pos (by simpa using hf1)]
    refine wpAny_execs_cons (wpAny_Return_some (Call_ (name_B (K := KW w) F₂ G.X G.T (by kernel_rfl) (by boot_by_name) (by decide) (callWith_builtin1 (args_cons (wpAny_BinOp (wpAny_Constant_int (wpAny_BinOp (ld F₂ rfl (wpAny_Constant_int (mod_int (by decide) (add_int (args_nil (P.chr_of_int ?_ ?_))))))))))))))
    · rw [fmod32]; simp; omega
    · have e : laid c f = (64 + (c : Int).fmod 32).toNat := by unfold laid; rw [if_neg hnot, if_pos hf1, fmod32]; omega
      have key := fun t h' tk g => h t h' tk g
      rw [e] at key
      exact key _ _ _ F₂.keep
  rw [if_neg (by simpa using hf1)]
  refine wpAny_execs_nil (wpAny_execs_cons ?_)
  refine laid_tail (base := s.heap) (c := c) (f := f) G F₂ rfl rfl (by omega) h12 fun N t' h' tk hN g => ?_
  have e : laid c f = (119807 + 52 * alph.getD (f - 2).toNat 0).toNat + c % 32 := (if_neg hnot).trans (if_neg hf1)
  obtain rfl : N = laid c f := hN.trans e.symm
  exact h _ _ _ (Grown.trans F₂.keep g)
end
end Mine

-- part F8
set_option Elab.async false
set_option maxRecDepth 100000
namespace Mine
def own (env : Env) : List Addr := env.locals :: env.cells.map (·.2)
/-- the frame of a function or of a comprehension: its variables, in whichever place they lie -/
structure FF (base : Heap) (env : Env) (h : Heap) (vs : List (Str × Value)) : Prop where
  keep : Grown base h
  new : ∀ a ∈ own env, base.get? a = none
  ns : ∃ m, h.Ns env.locals m ∧ ∀ p ∈ vs, env.kindOf p.1 = some .local → m p.1 = some p.2
  cell : ∀ x c, (x, c) ∈ env.cells → ∃ ov, h.IsCell c ov ∧ ∀ p ∈ vs, p.1 = x → env.kindOf x = some .cell → ov = some p.2
  apart : ∀ x y c, (x, c) ∈ env.cells → (y, c) ∈ env.cells → x = y
  once : ∀ x c c', (x, c) ∈ env.cells → (x, c') ∈ env.cells → c = c'
  off : ∀ x c, (x, c) ∈ env.cells → c ≠ env.locals
  fn : env.scope.kind = .function
  gl : env.globals = mainGlobals
  bi : env.builtins = builtinsNs
theorem mem_own {env : Env} {x : Str} {c : Addr} (h : (x, c) ∈ env.cells) : c ∈ own env := List.mem_cons_of_mem _ (List.mem_map.mpr ⟨_, h, rfl⟩)
theorem mem_lookup {vs : List (Str × Value)} {x : Str} {v : Value} (h : vs.lookup x = some v) : (x, v) ∈ vs := mem_of_lookup h
section
variable {base : Heap} {env : Env} {h h' : Heap} {vs : List (Str × Value)}
theorem FF.frame {Ms : List Addr} (F : FF base env h vs) (b : But Ms h h') (ho : ∀ a ∈ Ms, a ∉ own env) (hb : ∀ a ∈ Ms, base.get? a = none) : FF base env h' vs where
  keep := fun a o e => b a o (fun q => by rw [hb a q] at e; cases e) (F.keep a o e)
  new := F.new
  ns := let ⟨m, n, x⟩ := F.ns; ⟨m, n.at' fun o e => b _ o (fun q => ho _ q (List.mem_cons_self ..)) e, x⟩
  cell := fun x c hm => let ⟨ov, ⟨o, ho', hd⟩, r⟩ := F.cell x c hm; ⟨ov, ⟨o, b c o (fun q => ho _ q (mem_own hm)) ho', hd⟩, r⟩
  apart := F.apart
  once := F.once
  off := F.off
  fn := F.fn
  gl := F.gl
  bi := F.bi
theorem FF.grown (F : FF base env h vs) (g : Grown h h') : FF base env h' vs := F.frame (Ms := []) (But.of_grown g) (by simp) (by simp)
theorem FF.sub (F : FF base env h vs) (l : List (Str × Value)) (hl : (l.map fun p => vs.lookup p.1) = (l.map fun p => some p.2)) : FF base env h l := by
  have k : ∀ p ∈ l, p ∈ vs := fun p hp => mem_lookup (List.map_inj_left.mp hl p hp)
  exact { F with
    ns := let ⟨m, n, x⟩ := F.ns; ⟨m, n, fun p hp => x p (k p hp)⟩
    cell := fun x c hm => let ⟨ov, i, r⟩ := F.cell x c hm; ⟨ov, i, fun p hp => r p (k p hp)⟩ }
theorem FF.lt (F : FF base env h vs) : ∀ a ∈ own env, a < h.objs.size := by
  intro a ha
  rcases List.mem_cons.mp ha with rfl | ha
  · obtain ⟨m, n, _⟩ := F.ns; exact n.lt
  · obtain ⟨⟨x, c⟩, hm, rfl⟩ := List.mem_map.mp ha
    obtain ⟨ov, i, _⟩ := F.cell x c hm; exact i.lt
theorem get_none_of_le {h : Heap} {a : Addr} (e : h.objs.size ≤ a) : h.get? a = none := Heap.get?_none_of_le e
theorem Grown.none {h h' : Heap} (g : Grown h h') {a : Addr} (e : h'.get? a = none) : h.get? a = none := by
  cases q : h.get? a with
  | none => rfl
  | some o => rw [g a o q] at e; cases e
theorem FF.fresh (F : FF base env h vs) {a : Addr} (e : h.get? a = none) : base.get? a = none := F.keep.none e
theorem FF.notOwn (F : FF base env h vs) {a : Addr} (e : h.get? a = none) : a ∉ own env := by
  intro ha
  rcases List.mem_cons.mp ha with rfl | ha
  · obtain ⟨m, ⟨o, es, ep, ho, _⟩, _⟩ := F.ns; rw [e] at ho; cases ho
  · obtain ⟨⟨x, c⟩, hm, rfl⟩ := List.mem_map.mp ha
    obtain ⟨ov, ⟨o, ho, _⟩, _⟩ := F.cell x c hm; rw [e] at ho; cases ho
end
section
variable {w : World} {mg mb : Str → Option Value} {A : Around} {E : Value → Shared → Prop} {s : Shared} {base : Heap} {env : Env} {vs : List (Str × Value)}
theorem lv {M : Model} {x : Str} {pos : Pos} {v : Value} {Q : Value → Shared → Prop} (F : FF base env s.heap vs) (hv : vs.lookup x = some v) (h : Q v s)
    (hk : env.kindOf x = some .local ∨ (env.kindOf x = some .cell ∧ (env.cells.lookup x).isSome = true) := by first | exact .inl rfl | exact .inr ⟨rfl, rfl⟩) (hd : (x == ("__debug__" : Str)) = false := by decide) :
    wpAny M A (eval (.Name x pos) env) Q E s := by
  rcases hk with hk | ⟨hk, hc⟩
  · obtain ⟨m, n, r⟩ := F.ns
    exact wpAny_Name (wpAny_loadName_local F.fn hk n (r _ (mem_lookup hv) hk) h) hd
  · obtain ⟨c, hc⟩ := Option.isSome_iff_exists.mp hc
    obtain ⟨ov, i, r⟩ := F.cell x c (mem_of_lookup hc)
    have := r _ (mem_lookup hv) rfl hk
    subst this
    exact wpAny_Name (wpAny_loadName_cell F.fn hk hc i h) hd
theorem sv {M : Model} {x : Str} {v : Value} {Q : Unit → Shared → Prop} (F : FF base env s.heap vs) (h : ∀ h' tk, FF base env h' ((x, v) :: vs.filter (fun p => p.1 != x)) → But (own env) s.heap h' → Q () { s with heap := h', toks := tk })
    (hk : env.kindOf x = some .local ∨ (env.kindOf x = some .cell ∧ (env.cells.lookup x).isSome = true) := by first | exact .inl rfl | exact .inr ⟨rfl, rfl⟩) :
    wpAny M A (storeName env x v) Q E s := by
  have hnew := F.new
  have hmem : ∀ p ∈ vs.filter (fun p => p.1 != x), p ∈ vs ∧ p.1 ≠ x := fun p hp => by simpa using List.mem_filter.mp hp
  rcases hk with hk | ⟨hk, hc⟩
  · obtain ⟨m, n, r⟩ := F.ns
    refine wpAny_storeName_local hk n (fun h' hn hs => h h' _ ?_ ?_) (by rw [F.fn]; rfl)
    · refine { F with keep := ?_, ns := ⟨_, hn, ?_⟩, cell := ?_ }
      · exact fun b o e => hs.extBut b o (fun q => by rw [q, F.new _ (List.mem_cons_self ..)] at e; cases e) (F.keep b o e)
      · intro p hp hl
        rcases List.mem_cons.mp hp with rfl | hp
        · simp
        · have := hmem p hp
          show (if _ then _ else _) = _
          rw [if_neg this.2]; exact r p this.1 hl
      · intro y c hm
        obtain ⟨ov, i, q⟩ := F.cell y c hm
        refine ⟨ov, i.sameBut hs (F.off y c hm), fun p hp hy hk' => ?_⟩
        rcases List.mem_cons.mp hp with rfl | hp
        · subst hy; rw [hk] at hk'; cases hk'
        · exact q p (hmem p hp).1 hy hk'
    · exact But.of_same hs (List.mem_cons_self ..)
  · obtain ⟨c, hc⟩ := Option.isSome_iff_exists.mp hc
    have hmc := mem_of_lookup hc
    obtain ⟨ov, i, r⟩ := F.cell x c hmc
    refine wpAny_storeName_cell F.fn hk hc i fun h' hv hs => h h' _ ?_ ?_
    · refine { F with keep := ?_, ns := ?_, cell := ?_ }
      · exact fun b o e => hs.extBut b o (fun q => by rw [q, F.new _ (mem_own hmc)] at e; cases e) (F.keep b o e)
      · obtain ⟨m, n, r⟩ := F.ns
        refine ⟨m, n.sameBut hs (Ne.symm (F.off x c hmc)), fun p hp hl => ?_⟩
        rcases List.mem_cons.mp hp with rfl | hp
        · rw [hk] at hl; cases hl
        · exact r p (hmem p hp).1 hl
      · intro y c' hm
        by_cases hcc : c' = c
        · subst hcc
          have hy : y = x := F.apart _ _ _ hm hmc
          subst hy
          refine ⟨some v, hv, fun p hp hy hk' => ?_⟩
          rcases List.mem_cons.mp hp with rfl | hp
          · rfl
          · exact absurd hy (hmem p hp).2
        · obtain ⟨ov', i', q⟩ := F.cell y c' hm
          refine ⟨ov', i'.sameBut hs hcc, fun p hp hy hk' => ?_⟩
          rcases List.mem_cons.mp hp with rfl | hp
          · subst hy
            exact absurd (F.once _ _ _ hm hmc) hcc
          · exact q p (hmem p hp).1 hy hk'
    · exact But.of_same hs (mem_own hmc)
theorem gK {M : Model} {x : Str} {pos : Pos} {v : Value} {Q : Value → Shared → Prop} (F : FF base env s.heap vs) (G : Gd w mg mb base) (e : nsIn (KW w) mainGlobals x = some (some v)) (h : Q v s)
    (hx : env.kindOf x = some .globalImplicit := by rfl) (hd : (x == ("__debug__" : Str)) = false := by decide) : wpAny M A (eval (.Name x pos) env) Q E s :=
  Calls.Name_function_global F.fn hx (Calls.loadGlobal_global (mg := mg) (by rw [F.gl]; exact G.T.g.keeps F.keep) (mg_of G.X G.T.g e) h) hd
theorem gB {M : Model} {x : Str} {pos : Pos} {v : Value} {Q : Value → Shared → Prop} (F : FF base env s.heap vs) (G : Gd w mg mb base) (e : nsIn (KW w) mainGlobals x = some none) (hv : bootBuiltins x = some v) (hn : x ≠ "__name__") (h : Q v s)
    (hx : env.kindOf x = some .globalImplicit := by rfl) (hd : (x == ("__debug__" : Str)) = false := by decide) : wpAny M A (eval (.Name x pos) env) Q E s :=
  Calls.Name_function_global F.fn hx (Calls.loadGlobal_builtin (mg := mg) (mb := mb) (by rw [F.gl]; exact G.T.g.keeps F.keep) (mg_none_of G.X G.T.g e) (by rw [F.bi]; exact G.T.b.keeps F.keep) ((G.T.builtins x hn).trans hv) h) hd
end
theorem bindL_not {k : Str → Option NameKind} {n : Str} : ∀ {r : List (Str × Value)} {m : Str → Option Value}, n ∉ r.map (·.1) → bindL k r m n = m n
  | [], _, _ => rfl
  | (y, v) :: r, m, h => by
    unfold bindL
    rw [List.map_cons, List.mem_cons, not_or] at h
    rw [bindL_not h.2]
    split
    · show (if _ then _ else _) = _
      rw [if_neg h.1]
    · rfl
theorem bindC_not {k : Str → Option NameKind} {n : Str} : ∀ {r : List (Str × Value)} {m : Str → Option Value}, n ∉ r.map (·.1) → bindC k r m n = m n
  | [], _, _ => rfl
  | (y, v) :: r, m, h => by
    unfold bindC
    rw [List.map_cons, List.mem_cons, not_or] at h
    rw [bindC_not h.2]
    split
    · rfl
    · show (if _ then _ else _) = _
      rw [if_neg h.1]
theorem bindL_mem {k : Str → Option NameKind} {n : Str} {v : Value} (hk : k n = some .local) : ∀ {r : List (Str × Value)} {m : Str → Option Value}, (r.map (·.1)).Nodup → (n, v) ∈ r → bindL k r m n = some v
  | (y, u) :: r, m, hn, h => by
    rw [List.map_cons, List.nodup_cons] at hn
    unfold bindL
    rcases List.mem_cons.mp h with e | h
    · cases e
      rw [bindL_not hn.1, if_pos hk]
      show (if _ then _ else _) = _
      rw [if_pos rfl]
    · exact bindL_mem hk hn.2 h
theorem bindC_mem {k : Str → Option NameKind} {n : Str} {v : Value} (hk : k n = some .cell) : ∀ {r : List (Str × Value)} {m : Str → Option Value}, (r.map (·.1)).Nodup → (n, v) ∈ r → bindC k r m n = some v
  | (y, u) :: r, m, hn, h => by
    rw [List.map_cons, List.nodup_cons] at hn
    unfold bindC
    rcases List.mem_cons.mp h with e | h
    · cases e
      rw [bindC_not hn.1, if_neg (by rw [hk]; decide)]
      show (if _ then _ else _) = _
      rw [if_pos rfl]
    · exact bindC_mem hk hn.2 h
section
variable {w : World} {mg mb : Str → Option Value} {A : Around} {E : Value → Shared → Prop} {s : Shared} {Q : Value → Shared → Prop}
/-- the entry of a def, with or without cells -/
theorem call_fc {f c : Addr} {o : Obj} {name : Str} {params : Arguments} {body : List Stmt} {scope : Scope} {pm doc : Value} {vals : List Value} (binds : List (Str × Value)) (G : Gd w mg mb s.heap) (hroom : A.depth < recursionLimit)
    (ho : (KW w).lookup f = some o) (hdat : o.data = .func (docDef name params body scope pm (.ref c) doc)) (hcd : codeIn (KW w) (.ref c) name = true)
    (hbind : bindArgs (docDef name params body scope pm (.ref c) doc) ⟨vals, []⟩ = pure binds)
    (hkind : ∀ x ∈ binds, scope.names.lookup x.1 = some .local ∨ (scope.names.lookup x.1 = some .cell ∧ ((cellsFrom (s.heap.objs.size + 1) scope.names []).lookup x.1).isSome = true))
    (hn1 : (binds.map (·.1)).Nodup) (hn2 : ((cellsFrom 0 scope.names []).map (·.1)).Nodup)
    (h : ∀ L h₁ tk, FF s.heap (envOfC name scope L f (.ref c)) h₁ binds → wpAny (MD w) (A.deeper (envOfC name scope L f (.ref c))) (execs body (envOfC name scope L f (.ref c)))
        (fun fl s' => Q (match fl with | .ret v => v | _ => .none) s') (fun _ _ => False) { s with heap := h₁, toks := tk })
    (hco : scope.isCoroutine = false) (hgen : scope.isGenerator = false) (hk : scope.kind = .function) :
    wpAny (MD w) A (call (.ref f) vals) Q E s := by
  have hn3 : ((cellsFrom (s.heap.objs.size + 1) scope.names []).map (·.1)).Nodup := cellsFrom_names scope.names 0 (s.heap.objs.size + 1) [] [] rfl ▸ hn2
  refine wpAny_call (call_cells_ret hroom (G.X f o ho) hdat G.T.nolimit (codeRec_of G.X hcd) hbind hkind (fun h₁ tk F X => h s.heap.objs.size h₁ tk ?_) hco hgen hk)
  refine { keep := F.keep, new := ?_, ns := ⟨_, F.ns, fun p hp hl => bindL_mem hl hn1 hp⟩, cell := fun x c hm => ⟨_, X.cell x c (lookup_of_mem_nodup hn3 hm), fun p hp e hk' => ?_⟩, apart := fun x y c h1 h2 => name_of_addr X.apart h1 h2, once := fun x c c' h1 h2 => ?_, off := fun x c hm => Nat.ne_of_gt (X.above x c hm), fn := hk, gl := rfl, bi := rfl }
  · intro a ha
    rcases List.mem_cons.mp ha with rfl | ha
    · exact get_none_of_le (Nat.le_refl _)
    · obtain ⟨⟨x, c⟩, hm, rfl⟩ := List.mem_map.mp ha
      exact get_none_of_le (Nat.le_of_lt (X.above x c hm))
  · subst e; exact bindC_mem hk' hn1 hp
  · have e1 := lookup_of_mem_nodup hn3 h1
    have e2 := lookup_of_mem_nodup hn3 h2
    rw [e1] at e2; exact Option.some.inj e2
end
section
variable {w : World} {A : Around} {s : Shared} {env : Env}
/-- what a turn leaves -/
def Trn (mu : List Addr) (I : Heap → Prop) (R : Result → Shared → Prop) (s : Shared) : Flow → Shared → Prop
  | .next, s' => ∃ h tk, s' = { s with heap := h, toks := tk } ∧ I h ∧ But mu s.heap h
  | .cont, s' => ∃ h tk, s' = { s with heap := h, toks := tk } ∧ I h ∧ But mu s.heap h
  | .brk, s' => R (.ok .next) s'
  | .ret v, s' => R (.ok (.ret v)) s'
theorem for_ff {R : Result → Shared → Prop} {target : PySem.Expr} {body orelse : List Stmt} {I : Addr} {fp wr : List Addr} {n : Nat} {P : Nat → Value → Prop} {St : Nat → Heap → Prop} (mu : List Addr)
    (Inv : Nat → Heap → Prop) (W : Walks PW w A I fp wr n P St) (hmf : ∀ a ∈ mu, a ∉ fp)
    (hI : ∀ i h h', Inv i h → But wr h h' → Inv i h') (hst : St 0 s.heap) (h0 : Inv 0 s.heap)
    (turn : ∀ i v h tk, i < n → P i v → Inv i h → But (mu ++ wr) s.heap h →
      wpAny (MD w) A (assign target env v) (fun _ s' => wpAny (MD w) A (execs body env) (Trn mu (Inv (i + 1)) R { s with heap := h, toks := tk }) (fun _ _ => False) s') (fun _ _ => False) { s with heap := h, toks := tk })
    (done : ∀ h tk, Inv n h → But (mu ++ wr) s.heap h → wpAny (MD w) A (execs orelse env) (fun f s' => R (.ok f) s') (fun _ _ => False) { s with heap := h, toks := tk })
    (ht : ∀ v, letOwnedTupleGo target (.ref I) v = pure () := by intro _; rfl) :
    codeAny (MD w) A (.forLoop target (.ref I) body orelse env) R s := by
  refine codeAny_forLoop (fun k s' => ∃ i h tk, s' = { s with heap := h, toks := tk } ∧ i ≤ n ∧ k = n + 1 - i ∧ St i h ∧ Inv i h ∧ But (mu ++ wr) s.heap h) ?_ (n + 1)
    ⟨0, s.heap, s.toks, rfl, Nat.zero_le _, rfl, hst, h0, .refl _ _⟩ ht
  rintro k s' ⟨i, h, tk, rfl, hi, rfl, hst, hj, hb⟩
  have go : ∀ h₁, (∀ b o, b ∉ wr → h.get? b = some o → h₁.get? b = some o) → Inv i h₁ ∧ But (mu ++ wr) s.heap h₁ := fun h₁ k₁ =>
    ⟨hI _ _ _ hj k₁, hb.trans fun b o nb e => k₁ b o (fun q => nb (List.mem_append_right _ q)) e⟩
  by_cases hlt : i < n
  · refine W.item i _ _ _ hlt hst fun v h₁ tk₁ hP hst₁ k₁ => ?_
    obtain ⟨j₁, b₁⟩ := go h₁ k₁
    refine wpAny_mono (turn i v h₁ tk₁ hlt hP j₁ b₁) (fun _ s₂ h₂ => wpAny_mono h₂ (fun f s₃ h₃ => ?_) fun _ _ x => x.elim) fun _ _ x => x.elim
    have nx : (∃ h tk, s₃ = { ({ s with heap := h₁, toks := tk₁ } : Shared) with heap := h, toks := tk } ∧ Inv (i + 1) h ∧ But mu h₁ h) →
        ∃ m_1, m_1 < n + 1 - i ∧ ∃ i_1 h tk, s₃ = { s with heap := h, toks := tk } ∧ i_1 ≤ n ∧ m_1 = n + 1 - i_1 ∧ St i_1 h ∧ Inv i_1 h ∧ But (mu ++ wr) s.heap h := by
      rintro ⟨h', tk', rfl, j', b'⟩
      exact ⟨n + 1 - (i + 1), by omega, i + 1, h', tk', rfl, hlt, rfl, W.frame _ _ _ hst₁ fun b hbf o e => b' b o (fun q => hmf b q hbf) e, j', b₁.trans (b'.mono fun a ha => List.mem_append_left _ ha)⟩
    cases f with
    | next => exact nx h₃
    | cont => exact nx h₃
    | brk => exact h₃
    | ret v => exact h₃
  · have hin : i = n := by omega
    subst hin
    refine W.done _ _ _ hst fun h₁ tk₁ k₁ => ?_
    obtain ⟨j₁, b₁⟩ := go h₁ k₁
    exact wpAny_mono (done h₁ tk₁ j₁ b₁) (fun _ _ x => x) fun _ _ x => x.elim
end
end Mine

-- part F9
set_option Elab.async false
set_option maxRecDepth 100000
namespace Mine
theorem Paired.imp {α β : Type} {F G : α → β → Prop} (hi : ∀ a b, F a b → G a b) : ∀ {l₁ : List α} {l₂ : List β}, Paired F l₁ l₂ → Paired G l₁ l₂
  | _, _, .nil => .nil
  | _, _, .cons h t => .cons (hi _ _ h) (Paired.imp hi t)
section
variable {w : World} {A : Around} {E : Value → Shared → Prop} {s : Shared} {env : Env} {base : Heap} {vs : List (Str × Value)}
theorem rng1 {n : Nat} {t : Tok} (hn : n ≤ 1000) (hh : A.handled = none) {Q : Value → Shared → Prop}
    (h : ∀ I St h' tk, Grown s.heap h' → s.heap.get? I = none → I < h'.objs.size → Walks PW w A I [I] [I] n (fun i v => ∃ t, v = .int (i : Int) t) St → St 0 h' → (∀ i h, St i h → h.get? I ≠ none) → Q (.ref I) { s with heap := h', toks := tk }) :
    wpAny (MD w) A (call (.type "range") [.int (n : Int) t]) (fun xv s₁ => wpAny (MD w) A (pyIter xv) Q E s₁) E s := by
  refine call_range_1 (wpAny_pyIter_range (IsRange.new _ _ _ _ _ _ _) (small_one (by omega) (by omega) (by omega) (by omega)) ?_)
  have key := fun I => h I (fun i h => IsRangeIter h I (0 + (i : Nat) * 1) ((n : Int) - (i : Nat)) 1)
  refine key _ _ _ (fun b o e => Heap.get?_push_of_some _ (Heap.get?_push_of_some _ e)) (get_none_of_le (by simp [Heap.size_push])) (by simp [Heap.size_push]) ?_ ?_ ?_
  · have W := Walks.range (prog := PW) (w := w) (A := A) hh (s.heap.push { cls := .type "range", data := .fields #[.int 0 s.toks, .int n t, .int 1 (s.toks + 1)] }).objs.size 0 1 n
    have e : (fun (i : Nat) (v : Value) => ∃ t, v = Value.int (0 + (i : Int) * 1) t) = (fun (i : Nat) v => ∃ t, v = Value.int (i : Int) t) := by funext i v; rw [Int.mul_one, Int.zero_add]
    rw [e] at W; exact W
  · have e : Builtin.Range.rangeSize 0 (n : Int) 1 = (n : Int) - ((0 : Nat) : Int) := by rw [rangeSize_one]; split <;> omega
    rw [e]; exact Heap.get?_push_size _ rfl
  · intro i h e q; rw [e] at q; cases q
theorem rng2 {n : Nat} {t u : Tok} (hn : n ≤ 1000) (hh : A.handled = none) {Q : Value → Shared → Prop}
    (h : ∀ I St h' tk, Grown s.heap h' → s.heap.get? I = none → I < h'.objs.size → Walks PW w A I [I] [I] n (fun i v => ∃ t, v = .int ((i : Int) + 1) t) St → St 0 h' → (∀ i h, St i h → h.get? I ≠ none) → Q (.ref I) { s with heap := h', toks := tk }) :
    wpAny (MD w) A (call (.type "range") [.int 1 t, .int ((n : Int) + 1) u]) (fun xv s₁ => wpAny (MD w) A (pyIter xv) Q E s₁) E s := by
  refine call_range_2 (wpAny_pyIter_range (IsRange.new _ _ _ _ _ _ _) (small_one (by omega) (by omega) (by omega) (by omega)) ?_)
  have key := fun I => h I (fun i h => IsRangeIter h I (1 + (i : Nat) * 1) ((n : Int) - (i : Nat)) 1)
  refine key _ _ _ (fun b o e => Heap.get?_push_of_some _ (Heap.get?_push_of_some _ e)) (get_none_of_le (by simp [Heap.size_push])) (by simp [Heap.size_push]) ?_ ?_ ?_
  · have W := Walks.range (prog := PW) (w := w) (A := A) hh (s.heap.push { cls := .type "range", data := .fields #[.int 1 t, .int ((n : Int) + 1) u, .int 1 s.toks] }).objs.size 1 1 n
    have e : (fun (i : Nat) (v : Value) => ∃ t, v = Value.int (1 + (i : Int) * 1) t) = (fun (i : Nat) v => ∃ t, v = Value.int ((i : Int) + 1) t) := by funext i v; rw [Int.mul_one, Int.add_comm]
    rw [e] at W; exact W
  · have e : Builtin.Range.rangeSize 1 ((n : Int) + 1) 1 = (n : Int) - ((0 : Nat) : Int) := by rw [rangeSize_one]; split <;> omega
    rw [e]; exact Heap.get?_push_size _ rfl
  · intro i h e q; rw [e] at q; cases q
theorem itl {a : Addr} {items : Array Value} (hl : s.heap.IsList a items) (hh : A.handled = none) {Q : Value → Shared → Prop}
    (h : ∀ I St h' tk, Grown s.heap h' → s.heap.get? I = none → I < h'.objs.size → Walks PW w A I [I, a] [I] items.size (fun i v => items[i]? = some v) St → St 0 h' → (∀ i h, St i h → h.get? I ≠ none) → Q (.ref I) { s with heap := h', toks := tk }) :
    wpAny (MD w) A (pyIter (.ref a)) Q E s := by
  refine wpAny_pyIter_list hl ?_
  have hlt : a < s.heap.objs.size := let ⟨o, ho, _⟩ := hl; Heap.lt_size ho
  have up : Grown s.heap (s.heap.push { cls := .type "list_iterator", data := .fields #[.ref a, .int 0 0] }) := fun b o e => Heap.get?_push_of_some _ e
  exact h _ _ _ _ up (get_none_of_le (Nat.le_refl _)) (by rw [Heap.size_push]; exact Nat.lt_succ_self _) (Walks.list hh s.heap.objs.size a (Nat.ne_of_lt hlt) items) ⟨⟨_, Heap.get?_push_size _ rfl, rfl, rfl⟩, hl.at fun o e => up _ o e⟩ (fun i h e q => by obtain ⟨⟨o, ho, _⟩, _⟩ := e; rw [ho] at q; cases q)
set_option maxHeartbeats 1000000 in
theorem lc_block {elt iter : PySem.Expr} {x : Str} {px : Pos} {ifs : List PySem.Expr} {scope : Scope} {cl : List (Str × Addr)} {pos : Pos} {I : Addr} {fp : List Addr} {n : Nat} {P : Nat → Value → Prop}
    {St : Nat → Heap → Prop} {hs : Heap} (p : Nat → Bool) (Φ : List Addr → Nat → Value → Heap → Prop) (ls : List (Str × Value)) (W : Walks PW w A I fp [I] n P St) (hsz : n ≤ 1000) (hg : Grown hs s.heap) (hIn : hs.get? I = none) (hIs : ∀ i h, St i h → h.get? I ≠ none) {RR : Value → Addr → Result → Shared → Prop}
    (F₀ : FF base env hs vs) (hsub : ∀ q ∈ cl, q ∈ env.cells) (hcell : ∀ y ∈ scope.names, y.2 ≠ .cell) (hkind : scope.kind = .function) (hx : scope.names.lookup x = some .local)
    (hlc : (ls.map fun q => (vs.lookup q.1, (relabel scope env).names.lookup q.1, env.kindOf q.1)) = ls.map fun q => (some q.2, some .cell, some .cell)) (hst : St 0 s.heap) (hfp : ∀ b ∈ fp, b < s.heap.objs.size)
    (stab : ∀ X i y h h', Φ X i y h → But X h h' → Φ X i y h')
    (tests : ∀ C i v h tk E', i < n → P i v → FF base (compEnvC scope cl C env) h ((x, v) :: ls) → Grown hs h →
      wpAny (MD w) A (forIn ifs true fun c r => if r = true then do let ok ← isTrue c (compEnvC scope cl C env) (eval c (compEnvC scope cl C env)); pure (ForInStep.yield ok) else pure (ForInStep.yield r))
        (fun ok s₄ => ok = p i ∧ Keeps { s with heap := h, toks := tk } s₄) E' { s with heap := h, toks := tk })
    (elts : ∀ X C i v h tk E', i < n → P i v → p i = true → FF base (compEnvC scope cl C env) h ((x, v) :: ls) → Grown hs h → (∀ a ∈ X, h.get? a ≠ none) →
      wpAny (MD w) A (eval elt (compEnvC scope cl C env)) (fun y s₄ => Φ X i y s₄.heap ∧ Keeps { s with heap := h, toks := tk } s₄) E' { s with heap := h, toks := tk })
    (hRR : ∀ X D C h' tk m' ys, (∀ a ∈ X, hs.get? a = none) → D ∈ X → C ∈ X → D ≠ C → h'.Ns C m' → h'.PlainList D ys → Paired (fun i y => Φ X i y h') ((List.range n).filter p) ys.toList →
      Grown hs h' → RR (.ref D) C (.ok .next) { s with heap := h', toks := tk }) :
    wpAny (MD w) A (newList []) (fun acc s₃ => wpAny (MD w) A (newFunctionEnv scope env.globals cl [] env.qual none .none (some env)) (fun cenv s₄ =>
      codeAny (MD w) A (.compStart (.ListComp elt [⟨.Name x px, iter, ifs, 0⟩] scope pos) 0 (.ref I) acc { cenv with scope := relabel scope env }) (RR acc cenv.locals) s₄) E s₃) E s := by
  refine wpAny_newObj_type (wpAny_newFunctionEnv hcell (by intro y hy; simp at hy) (fun h₁ hns₁ hsb₁ => ?_) hkind)
  dsimp only at hns₁ hsb₁ ⊢
  generalize hH2 : s.heap.push { cls := .type "list", dict := none, data := .seq ([] : List Value).toArray } = H2 at hns₁ hsb₁ ⊢
  have hC : H2.objs.size = s.heap.objs.size + 1 := by rw [← hH2, Heap.size_push]
  have hDC : s.heap.objs.size ≠ H2.objs.size := by rw [hC]; exact Nat.ne_of_lt (Nat.lt_succ_self _)
  have hDf : s.heap.objs.size ∉ fp := fun hm => Nat.lt_irrefl _ (hfp _ hm)
  have hCf : H2.objs.size ∉ fp := fun hm => by have := hfp _ hm; rw [hC] at this; exact Nat.lt_irrefl _ (Nat.lt_of_succ_lt this)
  have old : ∀ b o, s.heap.get? b = some o → h₁.get? b = some o := fun b o e => hsb₁.extBut b o (by rw [hC]; exact Nat.ne_of_lt (Nat.lt_succ_of_lt (Heap.lt_size e))) (Heap.get?_push_of_some _ (hH2 ▸ Heap.get?_push_of_some _ e))
  have hacc : h₁.PlainList s.heap.objs.size #[] := ⟨_, hsb₁.extBut _ _ hDC (Heap.get?_push_of_some _ (hH2 ▸ Heap.get?_push_size _ rfl))⟩
  have hst₁ : St 0 h₁ := W.frame _ _ _ hst fun b _ o e => old b o e
  have hDn : hs.get? s.heap.objs.size = none := hg.none (get_none_of_le (Nat.le_refl _))
  have hCn : hs.get? H2.objs.size = none := hg.none (get_none_of_le (by rw [hC]; exact Nat.le_succ _))
  have hDs : s.heap.get? s.heap.objs.size = none := get_none_of_le (Nat.le_refl _)
  have hCs : s.heap.get? H2.objs.size = none := get_none_of_le (by rw [hC]; exact Nat.le_succ _)
  generalize s.heap.objs.size = D at *
  generalize H2.objs.size = C at *
  have hXn : ∀ a ∈ [C, D, I], hs.get? a = none := by
    intro a ha
    rcases List.mem_cons.mp ha with rfl | ha
    · exact hCn
    rcases List.mem_cons.mp ha with rfl | ha
    · exact hDn
    · rw [List.mem_singleton.mp ha]; exact hIn
  have F := F₀.grown hg
  have hno : ∀ a ∈ own env, a ≠ I := fun a ha e => F₀.notOwn hIn (e ▸ ha)
  have hCown : C ∉ own env := F.notOwn hCs
  have hDown : D ∉ own env := F.notOwn hDs
  have fcell : ∀ q ∈ ls, vs.lookup q.1 = some q.2 ∧ (relabel scope env).names.lookup q.1 = some .cell ∧ env.kindOf q.1 = some .cell := fun q hq => by
    have := List.map_inj_left.mp hlc q hq
    simp only [Prod.mk.injEq] at this
    exact this
  have hxl : (relabel scope env).names.lookup x = some .local := lookup_relabel_local hx
  -- the frame of a turn
  have fr : ∀ h v m, h.Ns C m → m x = some v → Grown hs h → (∀ b o, b ∉ [C, D, I] → s.heap.get? b = some o → h.get? b = some o) → FF base (compEnvC scope cl C env) h ((x, v) :: ls) := fun h v m hn hm hgh hk => {
    keep := fun b o e => hk b o (by
      intro hb
      rcases List.mem_cons.mp hb with rfl | hb
      · rw [F.fresh hCs] at e; cases e
      rcases List.mem_cons.mp hb with rfl | hb
      · rw [F.fresh hDs] at e; cases e
      · rw [List.mem_singleton.mp hb, F₀.fresh hIn] at e; cases e) (F.keep b o e)
    new := fun a ha => by
      rcases List.mem_cons.mp ha with rfl | ha
      · exact F.fresh hCs
      · obtain ⟨⟨y, c⟩, hq, rfl⟩ := List.mem_map.mp ha
        exact F.new c (mem_own (hsub _ hq))
    ns := ⟨m, hn, fun q hq hl => by
      rcases List.mem_cons.mp hq with rfl | hq
      · exact hm
      · have h2 : (relabel scope env).names.lookup q.1 = some .local := hl
        rw [(fcell q hq).2.1] at h2; cases h2⟩
    cell := fun y c hq => by
      obtain ⟨ov, ⟨o, ho, hd⟩, r⟩ := F.cell y c (hsub _ hq)
      have hmo := mem_own (hsub _ hq)
      refine ⟨ov, ⟨o, hk c o (by
        intro hb
        rcases List.mem_cons.mp hb with rfl | hb
        · exact hCown hmo
        rcases List.mem_cons.mp hb with rfl | hb
        · exact hDown hmo
        · exact hno _ hmo (List.mem_singleton.mp hb)) ho, hd⟩, fun q hq' hy hkk => ?_⟩
      rcases List.mem_cons.mp hq' with rfl | hq'
      · subst hy
        have h2 : (relabel scope env).names.lookup x = some .cell := hkk
        rw [hxl] at h2; cases h2
      · obtain ⟨e1, e2, e3⟩ := fcell q hq'
        exact r q (mem_lookup e1) hy (hy ▸ e3)
    apart := fun y z c h1 h2 => F.apart y z c (hsub _ h1) (hsub _ h2)
    once := fun y c c' h1 h2 => F.once y c c' (hsub _ h1) (hsub _ h2)
    off := fun y c h1 e => hCown ((show c = C from e) ▸ mem_own (hsub _ h1))
    fn := hkind
    gl := F.gl
    bi := F.bi }
  have hCI : C ≠ I := fun e => hIs 0 _ hst (e ▸ hCs)
  have hDI : D ≠ I := fun e => hIs 0 _ hst (e ▸ hDs)
  have loop : ∀ s₃ : Shared, s₃ = { s with heap := h₁, toks := s.toks + ([] : List (Str × Value)).length } →
      codeAny (MD w) A (.compLoop (.ListComp elt [⟨.Name x px, iter, ifs, 0⟩] scope pos) 0 (.ref I) (.ref D) (compEnvC scope cl C env))
        (RR (.ref D) C) s₃ := by
    rintro s₃ rfl
    refine codeAny_compLoop_tests
      (fun k s' => ∃ h' tk m' ys i, s' = { s with heap := h', toks := tk } ∧ St i h' ∧ h'.PlainList D ys ∧ h'.Ns C m' ∧ Paired (fun i y => Φ [C, D, I] i y h') ((List.range i).filter p) ys.toList ∧ i ≤ n ∧ k = n + 1 - i ∧
        (∀ b o, b ∉ [C, D, I] → s.heap.get? b = some o → h'.get? b = some o)) ?_ (n + 1)
      ⟨h₁, _, _, #[], 0, rfl, hst₁, hacc, hns₁, by simpa using Paired.nil, Nat.zero_le _, rfl, fun b o _ e => old b o e⟩
    rintro k s' ⟨H, tk, m', ys, i, rfl, hst', hacc', hn', hF, hi, rfl, hk⟩
    by_cases hlt : i < n
    · refine W.item i _ _ _ hlt hst' fun v h₂ tk₂ hPv hst₂ hk₂ => ?_
      refine wpAny_assign_Name (wpAny_storeName_local hxl (hn'.at' fun o e => hk₂ _ o (by simpa using hCI) e) (fun h₃ hn₃ hs₃ => ?_) (by simp [compEnvC, relabel, hkind]))
      replace hs₃ : Heap.SameBut C h₂ h₃ := hs₃
      have up₃ : But [C, D, I] H h₃ := fun b o nb e => hs₃.extBut b o (fun q => nb (by simp [q])) (hk₂ b o (fun q => nb (by simp at q; simp [q])) e)
      have hk₃ : ∀ b o, b ∉ [C, D, I] → s.heap.get? b = some o → h₃.get? b = some o := fun b o nb e => up₃ b o nb (hk b o nb e)
      have hg₃ : Grown hs h₃ := fun b o e => hk₃ b o (fun q => by rw [hXn b q] at e; cases e) (hg b o e)
      have hst₃ : St (i + 1) h₃ := W.frame _ _ _ hst₂ fun b hb o e => hs₃.extBut b o (fun q => hCf (q ▸ hb)) e
      have acc₃ : h₃.PlainList D ys := hacc'.at fun o e => hs₃.extBut _ o hDC (hk₂ _ o (by simpa using hDI) e)
      refine wpAny_mono (tests C i v h₃ _ _ hlt hPv (fr h₃ v _ hn₃ (by simp) hg₃ hk₃) hg₃) (fun ok s₄ h₄ => ?_) fun _ _ e => e
      obtain ⟨rfl, h₄, tk₄, rfl, hk₄⟩ := h₄
      have hF₄ : ∀ {h₅}, But [C, D, I] h₄ h₅ → Paired (fun i y => Φ [C, D, I] i y h₅) ((List.range i).filter p) ys.toList := fun b => Paired.imp (fun j y q => stab _ _ _ _ _ q ((up₃.trans (But.of_grown hk₄)).trans b)) hF
      have hst₄ : St (i + 1) h₄ := W.frame _ _ _ hst₃ fun b _ o e => hk₄ b o e
      have acc₄ : h₄.PlainList D ys := acc₃.at fun o e => hk₄ _ o e
      have hn₄ := hn₃.keeps hk₄
      cases hp : p i with
      | false =>
        simp only [Bool.false_eq_true, if_false]
        refine ⟨n + 1 - (i + 1), by omega, h₄, tk₄, _, ys, i + 1, rfl, hst₄, acc₄, hn₄, ?_, hlt, rfl, fun b o nb e => hk₄ b o (hk₃ b o nb e)⟩
        rw [List.range_succ, List.filter_append]; simpa [hp] using hF₄ (But.refl _ _)
      | true =>
        simp only [if_true]
        have hg₄ : Grown hs h₄ := fun b o e => hk₄ b o (hg₃ b o e)
        have hk₄' : ∀ b o, b ∉ [C, D, I] → s.heap.get? b = some o → h₄.get? b = some o := fun b o nb e => hk₄ b o (hk₃ b o nb e)
        refine wpAny_mono (elts [C, D, I] C i v h₄ tk₄ _ hlt hPv hp (fr h₄ v _ hn₄ (by simp) hg₄ hk₄') hg₄ ?_) (fun y s₅ h₅ => ?_) fun _ _ e => e
        · intro a ha
          rcases List.mem_cons.mp ha with rfl | ha
          · obtain ⟨o, es, ep, ho, _⟩ := hn₄; intro q; exact absurd (ho.symm.trans q) (by simp)
          rcases List.mem_cons.mp ha with rfl | ha
          · obtain ⟨o, ho⟩ := acc₄; rw [ho]; simp
          · rw [List.mem_singleton.mp ha]
            exact hIs _ _ hst₄
        · obtain ⟨hΦ, h₅, tk₅, rfl, hk₅⟩ := h₅
          have hys : ys.size ≤ sizeLine := by
            have e1 := hF.length
            have e2 : ((List.range i).filter p).length ≤ (List.range i).length := List.length_filter_le _ _
            have e4 : ys.toList.length = ys.size := by simp
            rw [List.length_range] at e2
            rw [sizeLine_eq]; omega
          refine wpAny_list_append_plain (hsz := hys) (acc₄.at fun o e => hk₅ _ o e) fun h₆ hl₆ hs₆ => ?_
          have up₆ : But [C, D, I] h₅ h₆ := fun b o nb e => hs₆.extBut b o (fun q => nb (by simp [q])) e
          refine ⟨n + 1 - (i + 1), by omega, h₆, tk₅, _, ys.push y, i + 1, rfl, ?_, hl₆, (hn₄.keeps hk₅).sameBut hs₆ (Ne.symm hDC), ?_, hlt, rfl, fun b o nb e => up₆ b o nb (hk₅ b o (hk₄' b o nb e))⟩
          · exact W.frame _ _ h₆ hst₄ fun b hb o e => hs₆.extBut b o (fun q => hDf (q ▸ hb)) (hk₅ b o e)
          · rw [List.range_succ, List.filter_append]
            simpa [hp] using Paired.snoc (hF₄ ((But.of_grown hk₅).trans up₆)) (stab _ _ _ _ _ hΦ up₆)
    · have hin : i = n := by omega
      subst hin
      refine W.done _ _ _ hst' fun h₂ tk₂ hk₂ => ?_
      have up : But [C, D, I] H h₂ := fun b o nb e => hk₂ b o (fun q => nb (by simp at q; simp [q])) e
      refine hRR [C, D, I] D C h₂ tk₂ m' ys hXn (by simp) (by simp) hDC (hn'.at' fun o e => hk₂ _ o (by simpa using hCI) e) (hacc'.at fun o e => hk₂ _ o (by simpa using hDI) e) (Paired.imp (fun j y q => stab _ _ _ _ _ q up) hF) ?_
      exact fun b o e => up b o (fun q => by rw [hXn b q] at e; cases e) (hk b o (fun q => by rw [hXn b q] at e; cases e) (hg b o e))
  exact codeAny_compStart_list (loop _ rfl) (W.self 0 _ _ _ hst₁ (loop _ rfl))

theorem lcomp {elt iter : PySem.Expr} {x : Str} {px : Pos} {ifs : List PySem.Expr} {scope : Scope} {cl : List (Str × Addr)} {pos : Pos} {Q : Value → Shared → Prop} (p : Nat → Bool) (Φ : List Addr → Nat → Value → Heap → Prop) (ls : List (Str × Value))
    (F : FF base env s.heap vs) (hclos : closureFor scope env = pure cl) (hsub : ∀ q ∈ cl, q ∈ env.cells) (hcell : ∀ y ∈ scope.names, y.2 ≠ .cell) (hkind : scope.kind = .function)
    (hnames : ∀ y ∈ scope.names, y.2 = .local → scope.names.lookup y.1 = some .local) (hx : scope.names.lookup x = some .local)
    (hlc : (ls.map fun q => (vs.lookup q.1, (relabel scope env).names.lookup q.1, env.kindOf q.1)) = ls.map fun q => (some q.2, some .cell, some .cell))
    (stab : ∀ X i y h h', Φ X i y h → But X h h' → Φ X i y h')
    (h : wpAny (MD w) A (eval iter env) (fun xv s₁ => wpAny (MD w) A (pyIter xv) (fun it s₂ => ∃ I fp n P St h₂ tk₂, it = .ref I ∧ s₂ = { s with heap := h₂, toks := tk₂ } ∧ Walks PW w A I fp [I] n P St ∧ n ≤ 1000 ∧ St 0 h₂ ∧ (∀ b ∈ fp, b < h₂.objs.size) ∧ s.heap.get? I = none ∧
      (∀ i h, St i h → h.get? I ≠ none) ∧ Grown s.heap h₂ ∧
      (∀ C i v h tk E', i < n → P i v → FF base (compEnvC scope cl C env) h ((x, v) :: ls) → Grown s.heap h →
        wpAny (MD w) A (forIn ifs true fun c r => if r = true then do let ok ← isTrue c (compEnvC scope cl C env) (eval c (compEnvC scope cl C env)); pure (ForInStep.yield ok) else pure (ForInStep.yield r))
          (fun ok s₄ => ok = p i ∧ Keeps { s with heap := h, toks := tk } s₄) E' { s with heap := h, toks := tk }) ∧
      (∀ X C i v h tk E', i < n → P i v → p i = true → FF base (compEnvC scope cl C env) h ((x, v) :: ls) → Grown s.heap h → (∀ a ∈ X, h.get? a ≠ none) →
        wpAny (MD w) A (eval elt (compEnvC scope cl C env)) (fun y s₄ => Φ X i y s₄.heap ∧ Keeps { s with heap := h, toks := tk } s₄) E' { s with heap := h, toks := tk }) ∧
      (∀ X D h' tk ys, (∀ a ∈ X, s.heap.get? a = none) → D ∈ X → h'.PlainList D ys → Paired (fun i y => Φ X i y h') ((List.range n).filter p) ys.toList → Grown s.heap h' → Q (.ref D) { s with heap := h', toks := tk })) E s₁) E s)
    (hs : ∀ x, foldedSetIterable iter env x = pure x := by intro _; rfl) :
    wpAny (MD w) A (eval (.ListComp elt [⟨.Name x px, iter, ifs, 0⟩] scope pos) env) Q E s := by
  rw [eval_ListComp]
  refine wpAny_comprehension_free (use := none) rfl hs hclos hkind hnames (wpAny_mono h (fun xv s₁ h₁ => wpAny_mono h₁ (fun it s₂ h₂ => ?_) fun _ _ e => e) fun _ _ e => e)
  obtain ⟨I, fp, n, P, St, h₂, tk₂, rfl, rfl, W, hsz, hst, hfp, hIn, hIs, hg, tests, elts, fin⟩ := h₂
  refine lc_block (s := { s with heap := h₂, toks := tk₂ }) (hs := s.heap) (vs := vs) (base := base) (RR := fun acc C => compPost (MD w) A E none Q acc C) p Φ ls W hsz hg hIn hIs F hsub hcell hkind hx hlc hst hfp stab tests elts ?_
  intro X D C h' tk m' ys hX hD hC hDC hn hl hP hg'
  refine ⟨m', hn, fun h'' hs'' => ?_⟩
  have b : But X h' h'' := fun b o nb e => hs''.extBut b o (fun q => nb (q ▸ hC)) e
  exact fin X D h'' tk ys hX hD (hl.extBut hs''.extBut hDC) (Paired.imp (fun i y q => stab _ _ _ _ _ q b) hP) fun a o e => hs''.extBut a o (fun q => by rw [q, hX C hC] at e; cases e) (hg' a o e)
end
end Mine

-- part F9L
set_option Elab.async false
set_option maxRecDepth 100000
namespace Mine
section
variable {w : World} {A : Around} {E : Value → Shared → Prop} {s : Shared} {env : Env} {base : Heap} {vs : List (Str × Value)}
theorem lassign {elt iter : PySem.Expr} {x y : Str} {px py : Pos} {ifs : List PySem.Expr} {scope : Scope} {cl : List (Str × Addr)} {pos spos : Pos} {Q : Flow → Shared → Prop} (p : Nat → Bool) (Φ : List Addr → Nat → Value → Heap → Prop) (ls : List (Str × Value))
    (F : FF base env s.heap vs) (hsw : swapsWith (.ListComp elt [⟨.Name x px, iter, ifs, 0⟩] scope pos) (some (.Name y py)) spos.line env = pure true) (hclos : closureFor scope env = pure cl) (hsub : ∀ q ∈ cl, q ∈ env.cells) (hcell : ∀ y ∈ scope.names, y.2 ≠ .cell) (hkind : scope.kind = .function)
    (hnames : ∀ y ∈ scope.names, y.2 = .local → scope.names.lookup y.1 = some .local) (hx : scope.names.lookup x = some .local)
    (hlc : (ls.map fun q => (vs.lookup q.1, (relabel scope env).names.lookup q.1, env.kindOf q.1)) = ls.map fun q => (some q.2, some .cell, some .cell))
    (hk : env.kindOf y = some .local ∨ (env.kindOf y = some .cell ∧ (env.cells.lookup y).isSome = true))
    (stab : ∀ X i y h h', Φ X i y h → But X h h' → Φ X i y h')
    (h : wpAny (MD w) A (eval iter env) (fun xv s₁ => wpAny (MD w) A (pyIter xv) (fun it s₂ => ∃ I fp n P St h₂ tk₂, it = .ref I ∧ s₂ = { s with heap := h₂, toks := tk₂ } ∧ Walks PW w A I fp [I] n P St ∧ n ≤ 1000 ∧ St 0 h₂ ∧ (∀ b ∈ fp, b < h₂.objs.size) ∧ s.heap.get? I = none ∧
      (∀ i h, St i h → h.get? I ≠ none) ∧ Grown s.heap h₂ ∧
      (∀ C i v h tk E', i < n → P i v → FF base (compEnvC scope cl C env) h ((x, v) :: ls) → Grown s.heap h →
        wpAny (MD w) A (forIn ifs true fun c r => if r = true then do let ok ← isTrue c (compEnvC scope cl C env) (eval c (compEnvC scope cl C env)); pure (ForInStep.yield ok) else pure (ForInStep.yield r))
          (fun ok s₄ => ok = p i ∧ Keeps { s with heap := h, toks := tk } s₄) E' { s with heap := h, toks := tk }) ∧
      (∀ X C i v h tk E', i < n → P i v → p i = true → FF base (compEnvC scope cl C env) h ((x, v) :: ls) → Grown s.heap h → (∀ a ∈ X, h.get? a ≠ none) →
        wpAny (MD w) A (eval elt (compEnvC scope cl C env)) (fun y s₄ => Φ X i y s₄.heap ∧ Keeps { s with heap := h, toks := tk } s₄) E' { s with heap := h, toks := tk }) ∧
      (∀ X D h₃ h' tk ys, (∀ a ∈ X, s.heap.get? a = none) → D ∈ X → h₃.PlainList D ys → Paired (fun i y => Φ X i y h₃) ((List.range n).filter p) ys.toList → Grown s.heap h₃ → But (X ++ own env) h₃ h' → h'.PlainList D ys → FF base env h' ((y, .ref D) :: vs.filter (fun p => p.1 != y)) → But (own env) s.heap h' → Q .next { s with heap := h', toks := tk })) E s₁) E s)
    (hs : ∀ x, foldedSetIterable iter env x = pure x := by intro _; rfl) :
    wpAny (MD w) A (exec (.Assign [.Name y py] (.ListComp elt [⟨.Name x px, iter, ifs, 0⟩] scope pos) spos) env) Q E s := by
  rw [exec_Assign_Name_used _ _ _ _ hsw]
  refine wpAny_bind (wpAny_standAt (wpAny_bind ?_))
  show wpAny _ A (do let _ ← comprehension (.ListComp elt [⟨.Name x px, iter, ifs, 0⟩] scope pos) scope env _ (newList []) false (eval iter env) (some (assign (.Name y py) env))) _ _ s
  refine wpAny_bind (wpAny_mono (wpAny_comprehension_free (use := some (assign (.Name y py) env)) (Q := fun _ s' => Q .next s') rfl hs hclos hkind hnames
    (wpAny_mono h (fun xv s₁ h₁ => wpAny_mono h₁ (fun it s₂ h₂ => ?_) fun _ _ e => e) fun _ _ e => e)) (fun _ s' hq => wpAny_pure (wpAny_pure hq)) fun _ _ e => e)
  obtain ⟨I, fp, n, P, St, h₂, tk₂, rfl, rfl, W, hsz, hst, hfp, hIn, hIs, hg, tests, elts, fin⟩ := h₂
  refine lc_block (s := { s with heap := h₂, toks := tk₂ }) (hs := s.heap) (vs := vs) (base := base) (RR := fun acc C => compPost (MD w) A E (some (assign (.Name y py) env)) (fun _ s' => Q .next s') acc C) p Φ ls W hsz hg hIn hIs F hsub hcell hkind hx hlc hst hfp stab tests elts ?_
  intro X D C h' tk m' ys hX hD hC hDC hn hl hP hg'
  show wpAny _ A (assign (.Name y py) env (.ref D)) _ _ _
  have hCo : C ∉ own env := F.notOwn (hX C hC)
  have hDo : D ∉ own env := F.notOwn (hX D hD)
  refine wpAny_assign_Name (sv (F.grown hg') (fun h₃ tk₃ F₃ b₃ => ?_) hk)
  refine ⟨m', hn.at' fun o e => b₃ _ o hCo e, fun h₄ hs₄ => ?_⟩
  replace hs₄ : Heap.SameBut C h₃ h₄ := hs₄
  have b₄ : But [C] h₃ h₄ := But.of_same hs₄ (by simp)
  refine fin X D h' h₄ tk₃ ys hX hD hl hP hg' ?_ ((hl.at fun o e => b₃ _ o hDo e).at fun o e => b₄ _ o (by simpa using hDC) e) ?_ ?_
  · exact (b₃.mono fun _ q => List.mem_append_right _ q).trans (b₄.mono fun a q => by rw [List.mem_singleton.mp q]; exact List.mem_append_left _ hC)
  · exact F₃.frame b₄ (fun a ha => by rw [List.mem_singleton.mp ha]; exact hCo) (fun a ha => by rw [List.mem_singleton.mp ha]; exact F.fresh (hX C hC))
  · intro b o nb e
    exact b₄ b o (fun q => by rw [List.mem_singleton.mp q, hX C hC] at e; cases e) (b₃ b o nb (hg' b o e))
end
end Mine

-- part F10
set_option Elab.async false
set_option maxRecDepth 100000
namespace Mine
/-- a bit, as the program reads it -/
def bt (a : Int) (k : Nat) : Int := (a.fdiv ((2 : Int) ^ k)).fmod 2
def okW (a b : Int) (k : Nat) : Bool := !(bt a k == 1 && bt b k == 0) || (([0, 3, 6] : List Int).any (· == (k : Int)) && !(bt b (9 + k / 3) == 0))
def within (a b : Int) : Bool := (List.range 12).all fun k => okW a b k
theorem st_eq {α : Type} {M : Model} {A : Around} {m : Sem α} {Q : α → Shared → Prop} {E : Value → Shared → Prop} {s : Shared} (s' : Shared) (e : s = s') (h : wpAny M A m Q E s') : wpAny M A m Q E s := e ▸ h
theorem ifT {c : Bool} {p q : Prop} (h : c = true) (x : p) : if c = true then p else q := by rw [if_pos h]; exact x
theorem ifF {c : Bool} {p q : Prop} (h : c = false) (x : q) : if c = true then p else q := by rw [h, if_neg Bool.false_ne_true]; exact x
section
variable {w : World} {mg mb : Str → Option Value} {A : Around} {E : Value → Shared → Prop} {s : Shared} {base : Heap} {env : Env} {vs : List (Str × Value)}
theorem ev_bit {X K : PySem.Expr} {p1 p2 p3 p4 p5 : Pos} {x1 x2 : Nat} {Q : Value → Shared → Prop} {a : Int} {k : Nat} (hk : k ≤ 15)
    (h : wpAny (MD w) A (eval X env) (fun v s₁ => ∃ t, v = .int a t ∧ ∀ tk, wpAny (MD w) A (eval K env) (fun u s₂ => ∃ t, u = .int (k : Int) t ∧ ∀ t tk, Q (.int (bt a k) t) { s₂ with toks := tk }) E { s₁ with toks := tk }) E s) :
    wpAny (MD w) A (eval (.BinOp (.BinOp X .FloorDiv (.BinOp (.Constant (.int (Int.ofNat 2)) x1 p1) .Pow K p2) p3) .Mod (.Constant (.int (Int.ofNat 2)) x2 p4) p5) env) Q E s := by
  refine wpAny_BinOp (wpAny_BinOp (wpAny_mono h (fun v s₁ h₁ => ?_) fun _ _ e => e))
  obtain ⟨t, rfl, h₁⟩ := h₁
  refine wpAny_BinOp (wpAny_Constant_int (wpAny_mono (h₁ _) (fun v s₂ h₂ => ?_) fun _ _ e => e))
  obtain ⟨t₂, rfl, h₂⟩ := h₂
  refine pow_int_small (by omega) (by omega) (by decide) ?_
  have e2 : ((2 : Int) ^ (k : Int).toNat) = (2 : Int) ^ k := by rw [Int.toNat_natCast]
  have hpos : (0 : Int) < 2 ^ k := Int.pow_pos (by decide)
  have hlt : (2 : Int) ^ k ≤ 2 ^ 15 := by
    have := Nat.pow_le_pow_right (show 0 < 2 by decide) hk
    exact_mod_cast this
  show wpAny _ _ (binaryOp .FloorDiv _ (.int ((2 : Int) ^ (k : Int).toNat) _)) _ _ _
  rw [e2]
  refine floordiv_int (by omega) ?_ (Or.inl (PyProof.noPylong_small (by omega)))
  refine wpAny_Constant_int (mod_int (by decide) ?_)
  exact h₂ _ _

noncomputable abbrev wiE (L : Addr) : Env := envOfC (fName (stm 31)) (fScope (stm 31)) L 138 (.ref 137)
set_option maxHeartbeats 1000000 in
theorem c_within {a b : Int} {t u : Tok} {Q : Value → Shared → Prop} (G : Gd w mg mb s.heap) (R : Room A 1) (h : ∀ h' tk, Grown s.heap h' → Q (.bool (within a b)) { s with heap := h', toks := tk }) :
    wpAny (MD w) A (call (.ref 138) [.int a t, .int b u]) Q E s := by
  refine call_fc (f := 138) (c := 137) (name := fName (stm 31)) (params := fParams (stm 31)) (body := fBody (stm 31)) (scope := fScope (stm 31)) [(Str.ofString "one", .int a t), (Str.ofString "other", .int b u)] G (by have := R.d; omega) rfl rfl (by kernel_rfl) rfl ?_ (by show List.Nodup [Str.ofString "one", Str.ofString "other"]; decide +kernel) (by decide +kernel) (fun L h₁ tk₁ F => ?_) rfl rfl rfl
  · intro x hx
    simp only [List.mem_cons, List.not_mem_nil, or_false] at hx
    rcases hx with rfl | rfl <;> exact .inl rfl
  have hh : (A.deeper (wiE L)).handled = none := R.h
  generalize A.deeper (wiE L) = A' at hh ⊢
  refine wpAny_execs_cons (wpAny_For (Call_ (gB F G (by kernel_rfl) (by boot_by_name) (by decide) (callWith_type1 (args_cons (wpAny_Constant_int (args_nil (rng1 (n := 12) (by decide) hh fun I St h₂ tk₂ g₂ hI hlt W st₀ al => ?_))))))))
  have F₂ := F.grown g₂
  have hIo : ∀ a ∈ own (wiE L), a ∉ [I] := fun a ha q => F.notOwn hI (List.mem_singleton.mp q ▸ ha)
  refine for_ff (own (wiE L)) (fun i h => FF s.heap (wiE L) h [(Str.ofString "one", .int a t), (Str.ofString "other", .int b u)] ∧ ∀ k < i, okW a b k = true) W hIo ?_ st₀ ⟨F₂, by omega⟩ ?_ ?_
  · rintro i h h' ⟨f, r⟩ bb
    exact ⟨f.frame bb (fun a ha => by rw [List.mem_singleton.mp ha]; exact F.notOwn hI) (fun a ha => by rw [List.mem_singleton.mp ha]; exact F.fresh hI), r⟩
  · rintro i v h₀ tk hi ⟨tv, rfl⟩ ⟨f, r⟩ bb
    refine wpAny_assign_Name (sv f fun h₃ tk₃ F₃ b₃ => ?_)
    have ret : okW a b i = false → ∀ h' tk, Grown s.heap h' → Q (.bool false) { s with heap := h', toks := tk } := fun ho h' tk g => by
      have e : within a b = false := by
        unfold within; rw [List.all_eq_false]; exact ⟨i, List.mem_range.mpr hi, by rw [ho]; decide⟩
      rw [← e]; exact h h' tk g
    have nxt : okW a b i = true → ∀ h' tk, FF s.heap (wiE L) h' [(Str.ofString "one", .int a t), (Str.ofString "other", .int b u)] ∧ But (own (wiE L)) h₀ h' → ∃ h_1 tk_1, ({ s with heap := h', toks := tk } : Shared) = { s with heap := h_1, toks := tk_1 } ∧ (FF s.heap (wiE L) h_1 [(Str.ofString "one", .int a t), (Str.ofString "other", .int b u)] ∧ ∀ k < i + 1, okW a b k = true) ∧ But (own (wiE L)) h₀ h_1 := fun ho h' tk hf =>
      ⟨h', tk, rfl, ⟨hf.1, fun k hk => by rcases Nat.lt_succ_iff_lt_or_eq.mp hk with q | rfl; exact r k q; exact ho⟩, hf.2⟩
    have Fc := F₃.sub [(Str.ofString "one", .int a t), (Str.ofString "other", .int b u)] rfl
    refine wpAny_execs_cons (wpAny_If (isTrue_and (wpAny_isTrue_Compare1 (ev_bit (a := a) (k := i) (by omega) (lv F₃ rfl ⟨_, rfl, fun tk => lv F₃ rfl ⟨_, rfl, fun t₅ tk₅ => ?_⟩⟩)))))
    refine wpAny_Constant_int (eq_int (wpAny_truthy_bool ?_))
    by_cases h1 : (bt a i == 1) = true
    rotate_left
    · rw [Bool.not_eq_true] at h1
      refine ifF h1 (ifF rfl (wpAny_execs_nil (wpAny_execs_nil (nxt ?_ _ _ ⟨Fc, b₃⟩))))
      unfold okW; rw [h1]; rfl
    refine ifT h1 ?_
    refine isTrue_and (wpAny_isTrue_Compare1 (ev_bit (a := b) (k := i) (by omega) (lv F₃ rfl ⟨_, rfl, fun tk => lv F₃ rfl ⟨_, rfl, fun t₅ tk₅ => ?_⟩⟩)))
    refine wpAny_Constant_int (eq_int (wpAny_truthy_bool ?_))
    by_cases h2 : (bt b i == 0) = true
    rotate_left
    · rw [Bool.not_eq_true] at h2
      refine ifF h2 (ifF rfl (wpAny_execs_nil (wpAny_execs_nil (nxt ?_ _ _ ⟨Fc, b₃⟩))))
      unfold okW; rw [h2, Bool.and_false]; rfl
    refine ifT h2 (isTrue_and_nil (ifT rfl ?_))
    refine wpAny_execs_cons (wpAny_If (isTrue_or (wpAny_isTrue_Compare1 (lv F₃ rfl (List_ (args_cons (wpAny_Constant_int (args_cons (wpAny_Constant_int (args_cons (wpAny_Constant_int (args_nil (newListB (by simp) fun h₄ lp g₄ l₄ n₄ => ?_)))))))))))))
    refine notin_list_ints (ns := [0, 3, 6]) l₄.isList (.cons _ _ (.cons _ _ (.cons _ _ .nil))) (wpAny_truthy_bool ?_)
    have F₄ := F₃.grown g₄
    by_cases h3 : ([0, 3, 6] : List Int).any (· == (i : Int)) = true
    rotate_left
    · rw [Bool.not_eq_true] at h3
      refine ifT (by rw [h3]; rfl) (ifT rfl (wpAny_execs_cons (wpAny_Return_some (wpAny_Constant_bool ?_))))
      exact ret (by unfold okW; rw [h1, h2, h3]; rfl) _ _ F₄.keep
    refine ifF (by rw [h3]; rfl) ?_
    have e9 : 9 + (i : Int).fdiv 3 = ((9 + i / 3 : Nat) : Int) := by rw [Int.fdiv_eq_ediv_of_nonneg _ (by decide)]; omega
    refine isTrue_or (wpAny_isTrue_Compare1 (ev_bit (a := b) (k := 9 + i / 3) (by omega) (lv F₄ rfl ⟨_, rfl, fun tk => wpAny_BinOp (wpAny_Constant_int (wpAny_BinOp (lv F₄ rfl (wpAny_Constant_int (floordiv_int (by decide) (add_int ⟨_, congrArg (Value.int · _) e9, fun t₅ tk₅ => ?_⟩))))))⟩)))
    refine wpAny_Constant_int (eq_int (wpAny_truthy_bool ?_))
    by_cases h4 : (bt b (9 + i / 3) == 0) = true
    · refine ifT h4 (ifT rfl (wpAny_execs_cons (wpAny_Return_some (wpAny_Constant_bool ?_))))
      exact ret (by unfold okW; rw [h1, h2, h3, h4]; rfl) _ _ F₄.keep
    · rw [Bool.not_eq_true] at h4
      refine ifF h4 (isTrue_or_nil (ifF rfl ?_))
      refine wpAny_execs_nil (wpAny_execs_nil (wpAny_execs_nil (nxt ?_ _ _ ⟨Fc.grown g₄, b₃.trans (But.of_grown g₄)⟩)))
      unfold okW; rw [h3, h4, Bool.not_false, Bool.and_self, Bool.or_true]
  · rintro h₃ tk₃ ⟨f, r⟩ bb
    refine wpAny_execs_nil (wpAny_execs_cons (wpAny_Return_some (wpAny_Constant_bool ?_)))
    have e : within a b = true := by unfold within; rw [List.all_eq_true]; exact fun k hk => r k (List.mem_range.mp hk)
    rw [← e]; exact h _ _ f.keep
end
end Mine

-- part F11
set_option Elab.async false
set_option maxRecDepth 100000
namespace Mine
def held (ns : List Int) (k : Nat) : Nat := ((List.range ns.length).filter fun i => bt (ns.getD i 0) k == 1).length
def shr (ns : List Int) (c : Int) : Nat → Int
  | 0 => 0
  | k + 1 => shr ns c k + (if decide ((held ns k : Int) ≥ c) = true then 2 ^ k else 0)
theorem ints_get : ∀ {vs : List Value} {ns : List Int} {i : Nat} {v : Value}, IntsAre vs ns → vs[i]? = some v → ∃ t, v = .int (ns.getD i 0) t
  | _, _, 0, _, .cons n t _, h => ⟨t, by simpa using h.symm⟩
  | _, _, i + 1, _, .cons n t r, h => by
    obtain ⟨t', e⟩ := ints_get (i := i) r (by simpa using h)
    exact ⟨t', by simpa using e⟩
section
variable {w : World} {mg mb : Str → Option Value} {A : Around} {E : Value → Shared → Prop} {s : Shared} {base : Heap} {env : Env} {vs : List (Str × Value)}
/-- [mode for mode in modes if mode // 2 ** K % 2 == 1] counted -/
theorem Keeps.rfl' {s : Shared} : Keeps s s := ⟨s.heap, s.toks, rfl, fun _ _ e => e⟩
theorem Keeps.toks {s : Shared} {tk : Nat} : Keeps s { s with toks := tk } := ⟨s.heap, tk, rfl, fun _ _ e => e⟩
noncomputable abbrev shE (L : Addr) : Env := envOfC (fName (stm 32)) (fScope (stm 32)) L 143 (.ref 142)
set_option maxHeartbeats 1000000 in
theorem c_shared {a : Addr} {ls : List Value} {ns : List Int} {c : Int} {u : Tok} {Q : Value → Shared → Prop} (G : Gd w mg mb s.heap) (R : Room A 1) (hl : s.heap.IsList a ls.toArray) (hi : IntsAre ls ns) (hlen : ns.length ≤ 100)
    (h : ∀ t h' tk, Grown s.heap h' → Q (.int (shr ns c 12) t) { s with heap := h', toks := tk }) :
    wpAny (MD w) A (call (.ref 143) [.ref a, .int c u]) Q E s := by
  refine call_fc (f := 143) (c := 142) (name := fName (stm 32)) (params := fParams (stm 32)) (body := fBody (stm 32)) (scope := fScope (stm 32)) [(Str.ofString "modes", .ref a), (Str.ofString "count", .int c u)] G (by have := R.d; omega) rfl rfl (by kernel_rfl) rfl ?_ (by show List.Nodup [Str.ofString "modes", Str.ofString "count"]; decide +kernel) (by decide +kernel) (fun L h₁ tk₁ F => ?_) rfl rfl rfl
  · intro x hx
    simp only [List.mem_cons, List.not_mem_nil, or_false] at hx
    rcases hx with rfl | rfl <;> exact .inl rfl
  have hh : (A.deeper (shE L)).handled = none := R.h
  generalize A.deeper (shE L) = A' at hh ⊢
  refine wpAny_execs_cons (wpAny_Assign_Name (wpAny_Constant_int (sv F fun h₂ tk₂ F₂ b₂ => ?_)))
  refine wpAny_execs_cons (wpAny_For (Call_ (gB F₂ G (by kernel_rfl) (by boot_by_name) (by decide) (callWith_type1 (args_cons (wpAny_Constant_int (args_nil (rng1 (n := 12) (by decide) hh fun I St h₃ tk₃ g₃ hI hlt W st₀ al => ?_))))))))
  have F₃ := F₂.grown g₃
  have hIo : ∀ a ∈ own (shE L), a ∉ [I] := fun a ha q => F₂.notOwn hI (List.mem_singleton.mp q ▸ ha)
  refine for_ff (own (shE L)) (fun i h => ∃ t, FF s.heap (shE L) h [(Str.ofString "modes", .ref a), (Str.ofString "count", .int c u), (Str.ofString "shared", .int (shr ns c i) t)]) W hIo ?_ st₀ ⟨_, F₃.sub _ rfl⟩ ?_ ?_
  · rintro i h h' ⟨t, f⟩ bb
    exact ⟨t, f.frame bb (fun a ha => by rw [List.mem_singleton.mp ha]; exact F₂.notOwn hI) (fun a ha => by rw [List.mem_singleton.mp ha]; exact F₂.fresh hI)⟩
  · rintro i v h₄ tk hi' ⟨tv, rfl⟩ ⟨t, f⟩ bb
    refine wpAny_assign_Name (sv f fun h₅ tk₅ F₅ b₅ => ?_)
    have hl₅ := hl.at fun o e => F₅.keep _ o e
    refine wpAny_execs_cons (wpAny_If (wpAny_isTrue_Compare1 (Call_ (gB F₅ G (by kernel_rfl) (by boot_by_name) (by decide) (callWith_builtin1 (args_cons ?_))))))
    refine lcomp (base := s.heap) (vs := _) (fun j => bt (ns.getD j 0) i == 1) (fun _ _ _ _ => True) [(Str.ofString "k", .int (i : Int) tv)] F₅ (cl := [(Str.ofString "k", L + 1)]) rfl ?_ ?_ rfl ?_ rfl rfl (fun _ _ _ _ _ _ _ => trivial) ?_
    · intro q hq; exact hq
    · decide +kernel
    · decide +kernel
    refine lv F₅ rfl (itl hl₅ hh fun I' St' h₆ tk₆ g₆ hI' hlt' W' st₆ al' => ?_)
    refine ⟨I', _, _, _, St', h₆, tk₆, rfl, rfl, W', ?_, st₆, ?_, hI', al', g₆, ?_, ?_, ?_⟩
    · simp; have := hi.length; omega
    · intro b hb
      rcases List.mem_cons.mp hb with rfl | hb
      · exact hlt'
      · rw [List.mem_singleton.mp hb]; obtain ⟨o, ho, _⟩ := hl₅; exact Heap.lt_size (g₆ _ o ho)
    · intro C j v h tk E' hj hv FC gC
      obtain ⟨t', rfl⟩ := ints_get hi (by simpa using hv)
      refine wpAny_tests_one (wpAny_isTrue_Compare1 (ev_bit (a := ns.getD j 0) (k := i) (by omega) (lv FC rfl ⟨_, rfl, fun tk => lv FC rfl ⟨_, rfl, fun t₇ tk₇ => ?_⟩⟩)))
      refine wpAny_Constant_int (eq_int (wpAny_truthy_bool ⟨rfl, Keeps.toks⟩))
    · intro X C j v h tk E' hj hv hp FC gC hX
      exact lv FC rfl ⟨trivial, Keeps.toks⟩
    · intro X D h₇ tk₇ ys hX hD hPl hPd g₇
      have hysz : ys.size = held ns i := by
        have := hPd.length
        have e : ls.toArray.size = ns.length := by simp [hi.length]
        rw [e] at this
        simpa [held] using this.symm
      have hfit : (ys.size : Int) < 2 ^ 63 := by
        have : held ns i ≤ ns.length := by unfold held; exact Nat.le_trans (List.length_filter_le _ _) (by simp)
        omega
      refine args_nil (len_list hPl.isList hfit ?_)
      have F₇ := F₅.grown g₇
      have b₇ : But (own (shE L)) h₄ h₇ := b₅.trans (But.of_grown g₇)
      refine lv F₇ rfl (ge_int (wpAny_truthy_bool ?_))
      by_cases hc : decide ((ys.size : Int) ≥ c) = true
      · refine ifT hc (wpAny_execs_cons (wpAny_Assign_Name (wpAny_BinOp (lv F₇ rfl (wpAny_BinOp (wpAny_Constant_int (lv F₇ rfl (pow_int_small (by omega) (by omega) (by decide) (add_int (sv F₇ fun h₈ tk₈ F₈ b₈ => ?_))))))))))
        refine wpAny_execs_nil (wpAny_execs_nil ⟨h₈, tk₈, rfl, ?_, b₇.trans b₈⟩)
        have e : shr ns c (i + 1) = shr ns c i + 2 ^ ((i : Int).toNat) := by
          rw [shr, Int.toNat_natCast, if_pos (by rw [← hysz]; exact hc)]
        rw [e]
        exact ⟨_, F₈.sub [(Str.ofString "modes", .ref a), (Str.ofString "count", .int c u), (Str.ofString "shared", .int (shr ns c i + 2 ^ ((i : Int).toNat)) _)] rfl⟩
      · refine ifF (by simpa using hc) (wpAny_execs_nil (wpAny_execs_nil ⟨h₇, _, rfl, ⟨t, ?_⟩, b₇⟩))
        have e : shr ns c (i + 1) = shr ns c i := by
          rw [shr, if_neg (by rw [← hysz]; exact hc), Int.add_zero]
        rw [e]
        exact F₇.sub [(Str.ofString "modes", .ref a), (Str.ofString "count", .int c u), (Str.ofString "shared", .int (shr ns c i) t)] rfl
  · rintro h₄ tk₄ ⟨t, f⟩ bb
    refine wpAny_execs_nil (wpAny_execs_cons (wpAny_Return_some (lv f rfl ?_)))
    exact h _ _ _ f.keep
end
end Mine

-- part F12
set_option Elab.async false
set_option maxRecDepth 100000
namespace Mine
/-- a list of lists of ints in the heap -/
def Row (h : Heap) (v : Value) (ns : List Int) : Prop := ∃ p ls, v = .ref p ∧ h.IsList p ls.toArray ∧ IntsAre ls ns
def Mat (h : Heap) (a : Addr) (M : List (List Int)) : Prop := ∃ vs : List Value, h.IsList a vs.toArray ∧ Paired (Row h) vs M
theorem Row.grown {h h' : Heap} {v : Value} {ns : List Int} (g : Grown h h') (x : Row h v ns) : Row h' v ns := let ⟨p, ls, e, l, i⟩ := x; ⟨p, ls, e, l.at fun o e => g _ o e, i⟩
theorem Mat.grown {h h' : Heap} {a : Addr} {M : List (List Int)} (g : Grown h h') (x : Mat h a M) : Mat h' a M := let ⟨vs, l, r⟩ := x; ⟨vs, l.at fun o e => g _ o e, Paired.imp (fun _ _ q => q.grown g) r⟩
theorem paired_get {α : Type} {F : Value → α → Prop} : ∀ {vs : List Value} {xs : List α} {i : Nat} {v : Value}, Paired F vs xs → vs[i]? = some v → ∃ x, xs[i]? = some x ∧ F v x
  | _, _, 0, _, .cons h _, e => ⟨_, rfl, by cases e; exact h⟩
  | _, _, i + 1, _, .cons _ r, e => by
    obtain ⟨x, e1, e2⟩ := paired_get (i := i) r (by simpa using e)
    exact ⟨x, by simpa using e1, e2⟩
theorem ints_of {f : Nat → Int} : ∀ {is : List Nat} {ys : List Value}, Paired (fun i y => ∃ t, y = Value.int (f i) t) is ys → IntsAre ys (is.map f)
  | _, _, .nil => .nil
  | _, _, .cons ⟨t, e⟩ r => by subst e; exact .cons _ t (ints_of r)
theorem filter_all {n : Nat} : (List.range n).filter (fun _ => true) = List.range n := List.filter_eq_self.mpr (by simp)
def col (M : List (List Int)) (k : Nat) : List Int := (List.range M.length).map fun j => (M.getD j []).getD k 0
def DueAt (ns : List Int) (M : List (List Int)) (c : Nat) (k : Nat) (d : Int) : Prop := ∃ l : List Int, l.Perm (col M k) ∧ l.Pairwise (· ≤ ·) ∧ d = (if (l.getD (M.length - c) 0 == 1 && decide ((held ns (8 - k) : Int) < (c : Int))) = true then 0 else l.getD (M.length - c) 0)
section
variable {w : World} {mg mb : Str → Option Value} {A : Around} {E : Value → Shared → Prop} {s : Shared} {base : Heap} {env : Env} {vs : List (Str × Value)}
theorem sorted_g {l : Addr} {vs : List Value} {ns : List Int} {Q : Value → Shared → Prop} (hl : s.heap.IsList l vs.toArray) (hI : IntsAre vs ns) (h64 : vs.length < 64)
    (h : ∀ P h' out ns', Grown s.heap h' → h'.IsList P out → IntsAre out.toList ns' → ns'.Perm ns → ns'.Pairwise (· ≤ ·) → Q (.ref P) { s with heap := h' }) :
    wpAny (MD w) A (call (.builtin "sorted") [.ref l]) Q E s := by
  refine sorted_ints hl hI h64 fun out sl a1 a2 a3 => ?_
  obtain ⟨eo, hout⟩ := sortedAll_at s.heap vs out
  exact h _ _ out sl (fun _ _ e => sortedAll_old e) ⟨_, hout, rfl, eo, rfl⟩ a1 a2 a3
noncomputable abbrev duE (L : Addr) : Env := envOfC (fName (stm 33)) (fScope (stm 33)) L 148 (.ref 147)
set_option maxHeartbeats 1000000 in
theorem c_due {a b : Addr} {ls : List Value} {ns : List Int} {M : List (List Int)} {c : Nat} {u : Tok} {Q : Value → Shared → Prop} (G : Gd w mg mb s.heap) (R : Room A 1) (hl : s.heap.IsList a ls.toArray) (hi : IntsAre ls ns) (hlen : ns.length ≤ 60)
    (hM : Mat s.heap b M) (hMl : M.length ≤ 60) (hMr : ∀ r ∈ M, 9 ≤ r.length) (hc1 : 1 ≤ c) (hc2 : c ≤ M.length)
    (h : ∀ P ds dvs h' tk, s.heap.get? P = none → h'.PlainList P dvs → IntsAre dvs.toList ds → ds.length = 9 → (∀ k < 9, DueAt ns M c k (ds.getD k 0)) → Grown s.heap h' → Q (.ref P) { s with heap := h', toks := tk }) :
    wpAny (MD w) A (call (.ref 148) [.ref a, .ref b, .int (c : Int) u]) Q E s := by
  refine call_fc (f := 148) (c := 147) (name := fName (stm 33)) (params := fParams (stm 33)) (body := fBody (stm 33)) (scope := fScope (stm 33)) [(Str.ofString "modes", .ref a), (Str.ofString "levels", .ref b), (Str.ofString "count", .int (c : Int) u)] G (by have := R.d; omega) rfl rfl (by kernel_rfl) rfl ?_ (by show List.Nodup [Str.ofString "modes", Str.ofString "levels", Str.ofString "count"]; decide +kernel) (by decide +kernel) (fun L h₁ tk₁ F => ?_) rfl rfl rfl
  · intro x hx
    simp only [List.mem_cons, List.not_mem_nil, or_false] at hx
    rcases hx with rfl | rfl | rfl <;> exact .inl rfl
  have hh : (A.deeper (duE L)).handled = none := R.h
  generalize A.deeper (duE L) = A' at hh ⊢
  obtain ⟨rs, hb, hrs⟩ := hM
  have hrl : rs.length = M.length := hrs.length
  refine wpAny_execs_cons (wpAny_Assign_Name (List_ (args_nil (newListB (by simp) fun h₂ P g₂ l₂ n₂ => sv (F.grown g₂) fun h₃ tk₃ F₃ b₃ => ?_))))
  have hPo : P ∉ own (duE L) := F.notOwn n₂
  have hPb : s.heap.get? P = none := F.fresh n₂
  have l₃ : h₃.PlainList P #[] := l₂.at fun o e => b₃ _ o hPo e
  refine wpAny_execs_cons (wpAny_For (Call_ (gB F₃ G (by kernel_rfl) (by boot_by_name) (by decide) (callWith_type1 (args_cons (wpAny_Constant_int (args_nil (rng1 (n := 9) (by decide) hh fun I St h₄ tk₄ g₄ hI hlt W st₀ al => ?_))))))))
  have F₄ := F₃.grown g₄
  have hPI : P ≠ I := fun e => by obtain ⟨n, q⟩ := l₃; rw [e] at q; exact absurd (q.symm.trans hI) (by simp)
  refine for_ff (P :: own (duE L)) (fun i h => ∃ ds dvs, FF s.heap (duE L) h [(Str.ofString "modes", .ref a), (Str.ofString "levels", .ref b), (Str.ofString "count", .int (c : Int) u), (Str.ofString "due", .ref P)] ∧ h.PlainList P dvs ∧ IntsAre dvs.toList ds ∧ ds.length = i ∧ ∀ k < i, DueAt ns M c k (ds.getD k 0)) W ?_ ?_ st₀ ⟨[], #[], F₄.sub _ rfl, l₃.at fun o e => g₄ _ o e, .nil, rfl, by omega⟩ ?_ ?_
  · intro x hx q
    rw [List.mem_singleton.mp q] at hx
    rcases List.mem_cons.mp hx with e | hx
    · exact hPI e.symm
    · exact F₃.notOwn hI hx
  · rintro i h h' ⟨ds, dvs, f, pl, r⟩ bb
    exact ⟨ds, dvs, f.frame bb (fun a ha => by rw [List.mem_singleton.mp ha]; exact F₃.notOwn hI) (fun a ha => by rw [List.mem_singleton.mp ha]; exact F₃.fresh hI), pl.at fun o e => bb _ o (by simpa using hPI) e, r⟩
  · rintro i v h₅ tk hi9 ⟨tv, rfl⟩ ⟨ds, dvs, f, pl, hds, hdl, hda⟩ bb
    refine wpAny_assign_Name (sv f fun h₆ tk₆ F₆ b₆ => ?_)
    refine st_eq { s with heap := h₆, toks := tk₆ } rfl ?_
    have pl₆ : h₆.PlainList P dvs := pl.at fun o e => b₆ _ o hPo e
    have hb₆ := hb.at fun o e => F₆.keep _ o e
    refine wpAny_execs_cons (wpAny_Assign_Name (Subscript_ (Call_ (gB F₆ G (by kernel_rfl) (by boot_by_name) (by decide) (callWith_builtin1 (args_cons ?_))))))
    refine lcomp (base := s.heap) (vs := _) (fun _ => true) (fun _ j y _ => ∃ t, y = .int ((M.getD j []).getD i 0) t) [(Str.ofString "k", .int (i : Int) tv)] F₆ (cl := [(Str.ofString "k", L + 1)]) rfl ?_ ?_ rfl ?_ rfl rfl (fun _ _ _ _ _ q _ => q) ?_
    · intro q hq; exact hq
    · decide +kernel
    · decide +kernel
    refine lv F₆ rfl (itl hb₆ hh fun I' St' h₇ tk₇ g₇ hI' hlt' W' st₇ al' => ?_)
    refine ⟨I', _, _, _, St', h₇, tk₇, rfl, rfl, W', ?_, st₇, ?_, hI', al', g₇, ?_, ?_, ?_⟩
    · simp; omega
    · intro b hb
      rcases List.mem_cons.mp hb with rfl | hb
      · exact hlt'
      · rw [List.mem_singleton.mp hb]; obtain ⟨o, ho, _⟩ := hb₆; exact Heap.lt_size (g₇ _ o ho)
    · intro C j v h tk E' hj hv FC gC
      exact wpAny_tests_nil ⟨rfl, Keeps.rfl'⟩
    · intro X C j v h tk E' hj hv hp FC gC hX
      obtain ⟨r, er, p, rl, rfl, hrl', hri⟩ := paired_get hrs (by simpa using hv)
      have hr9 : 9 ≤ r.length := hMr r (List.mem_of_getElem? er)
      have hlr := hri.length
      obtain ⟨x, hx⟩ : ∃ x, rl[i]? = some x := ⟨rl[i]'(by omega), List.getElem?_eq_getElem _⟩
      obtain ⟨t', rfl⟩ := ints_get hri hx
      refine Subscript_ (lv FC rfl (lv FC rfl (list_item (M := MD w) (hrl'.at fun o e => FC.keep _ o e) (by omega) (by omega) (by simpa using hx) ⟨⟨t', ?_⟩, Keeps.rfl'⟩ (by rfl))))
      rw [List.getD_eq_getElem?_getD (l := M), er]; rfl
    · intro X D h₈ tk₈ ys hX hD hPl hPd g₈
      have e1 : rs.toArray.size = M.length := by simp [hrl]
      rw [e1, filter_all] at hPd
      have hcol : IntsAre ys.toList (col M i) := ints_of hPd
      have hcl : (col M i).length = M.length := by simp [col]
      obtain ⟨yl⟩ := ys
      have hyl : yl.length = M.length := by have := hcol.length; simpa [hcl] using this
      refine args_nil (sorted_g (vs := yl) hPl.isList hcol (by omega) fun P₉ h₉ out sl g₉ hIsO hsl hperm hsort => ?_)
      refine st_eq { s with heap := h₉, toks := tk₈ } rfl ?_
      have F₉ := (F₆.grown g₈).grown g₉
      have hsl' : sl.length = M.length := hperm.length_eq.trans hcl
      have ef1 : (rs.toArray.size : Int) < 2 ^ 63 := by rw [e1]; omega
      refine wpAny_BinOp (Call_ (gB F₉ G (by kernel_rfl) (by boot_by_name) (by decide) (callWith_builtin1 (args_cons (lv F₉ rfl (args_nil (len_list (hb.at fun o e => F₉.keep _ o e) (by simp; omega) ?_)))))))
      refine lv F₉ rfl (sub_int ?_)
      have hol : out.toList.length = M.length := by rw [hsl.length, hsl']
      have ek : (((rs.toArray.size : Nat) : Int) - (c : Int)).toNat = M.length - c := by rw [e1]; omega
      obtain ⟨x, hx⟩ : ∃ x, out.toList[M.length - c]? = some x := ⟨out.toList[M.length - c]'(by omega), List.getElem?_eq_getElem _⟩
      obtain ⟨tx, rfl⟩ := ints_get hsl hx
      have ek0 : 0 ≤ ((rs.toArray.size : Nat) : Int) - (c : Int) := by rw [e1]; omega
      have ek1 : ((rs.toArray.size : Nat) : Int) - (c : Int) < 2 ^ 63 := by rw [e1]; omega
      have ek2 : out[(((rs.toArray.size : Nat) : Int) - (c : Int)).toNat]? = some (Value.int (sl.getD (M.length - c) 0) tx) := by rw [ek]; simpa using hx
      refine list_item (M := MD w) hIsO ek0 ek1 ek2 ?_ (by rfl)
      refine sv F₉ fun h₁₀ tk₁₀ F₁₀' b₁₀ => ?_
      have F₁₀ := F₁₀'.sub [(Str.ofString "modes", .ref a), (Str.ofString "levels", .ref b), (Str.ofString "count", .int (c : Int) u), (Str.ofString "due", .ref P), (Str.ofString "k", .int (i : Int) tv), (Str.ofString "high", .int (sl.getD (M.length - c) 0) tx)] rfl
      refine st_eq { s with heap := h₁₀, toks := tk₁₀ } rfl ?_
      have B₁₀ : But (P :: own (duE L)) h₅ h₁₀ := (((b₆.trans (But.of_grown g₈)).trans (But.of_grown g₉)).trans b₁₀).mono fun _ q => List.mem_cons_of_mem _ q
      have pl₁₀ : h₁₀.PlainList P dvs := pl₆.at fun o e => b₁₀ _ o hPo (g₉ _ o (g₈ _ o e))
      clear b₁₀
      have hl₁₀ := hl.at fun o e => F₁₀.keep _ o e
      refine wpAny_execs_cons (wpAny_Assign_Name (Call_ (gB F₁₀ G (by kernel_rfl) (by boot_by_name) (by decide) (callWith_builtin1 (args_cons ?_)))))
      refine lcomp (base := s.heap) (vs := _) (fun j => bt (ns.getD j 0) (8 - i) == 1) (fun _ _ _ _ => True) [(Str.ofString "k", .int (i : Int) tv)] F₁₀ (cl := [(Str.ofString "k", L + 1)]) rfl ?_ ?_ rfl ?_ rfl rfl (fun _ _ _ _ _ _ _ => trivial) ?_
      · intro q hq; exact hq
      · decide +kernel
      · decide +kernel
      refine lv F₁₀ rfl (itl hl₁₀ hh fun I'' St'' h₁₁ tk₁₁ g₁₁ hI'' hlt'' W'' st₁₁ al'' => ?_)
      refine ⟨I'', _, _, _, St'', h₁₁, tk₁₁, rfl, rfl, W'', ?_, st₁₁, ?_, hI'', al'', g₁₁, ?_, ?_, ?_⟩
      · simp; have := hi.length; omega
      · intro b hb
        rcases List.mem_cons.mp hb with rfl | hb
        · exact hlt''
        · rw [List.mem_singleton.mp hb]; obtain ⟨o, ho, _⟩ := hl₁₀; exact Heap.lt_size (g₁₁ _ o ho)
      · intro C j v h tk E' hj hv FC gC
        obtain ⟨t', rfl⟩ := ints_get hi (by simpa using hv)
        have e8 : 8 - (i : Int) = ((8 - i : Nat) : Int) := by omega
        refine wpAny_tests_one (wpAny_isTrue_Compare1 (ev_bit (a := ns.getD j 0) (k := 8 - i) (by omega) (lv FC rfl ⟨_, rfl, fun tk => wpAny_BinOp (wpAny_Constant_int (lv FC rfl (sub_int ⟨_, congrArg (Value.int · _) e8, fun t₇ tk₇ => ?_⟩)))⟩)))
        refine wpAny_Constant_int (eq_int (wpAny_truthy_bool ⟨rfl, Keeps.toks⟩))
      · intro X C j v h tk E' hj hv hp FC gC hX
        exact lv FC rfl ⟨trivial, Keeps.toks⟩
      · intro X D h₁₂ tk₁₂ ys hX hD hPl hPd g₁₂
        have hysz : ys.size = held ns (8 - i) := by
          have := hPd.length
          have e : ls.toArray.size = ns.length := by simp [hi.length]
          rw [e] at this
          simpa [held] using this.symm
        have hfit : (ys.size : Int) < 2 ^ 63 := by
          have : held ns (8 - i) ≤ ns.length := by unfold held; exact Nat.le_trans (List.length_filter_le _ _) (by simp)
          omega
        refine args_nil (len_list hPl.isList hfit ?_)
        refine sv (F₁₀.grown g₁₂) fun h₁₃ tk₁₃ F₁₃ b₁₃ => ?_
        refine st_eq { s with heap := h₁₃, toks := tk₁₃ } rfl ?_
        have B₁₃ : But (P :: own (duE L)) h₅ h₁₃ := B₁₀.trans (((But.of_grown g₁₂).trans b₁₃).mono fun _ q => List.mem_cons_of_mem _ q)
        have pl₁₃ : h₁₃.PlainList P dvs := pl₁₀.at fun o e => b₁₃ _ o hPo (g₁₂ _ o e)
        obtain ⟨pn, hpn⟩ := id pl₁₃
        have hdv : dvs.toList.length = i := by rw [hds.length, hdl]
        have hdv2 : dvs.toList.length = dvs.size := by simp
        have hsz : dvs.size ≤ sizeLine := by rw [sizeLine_eq]; omega
        have app : ∀ d td tk, DueAt ns M c i d → ∀ h₁₄, h₁₄.PlainList P (dvs.push (.int d td)) → Heap.SameBut P h₁₃ h₁₄ → ∃ h tk', ({ s with heap := h₁₄, toks := tk } : Shared) = { s with heap := h, toks := tk' } ∧ (∃ ds dvs, FF s.heap (duE L) h [(Str.ofString "modes", .ref a), (Str.ofString "levels", .ref b), (Str.ofString "count", .int (c : Int) u), (Str.ofString "due", .ref P)] ∧ h.PlainList P dvs ∧ IntsAre dvs.toList ds ∧ ds.length = i + 1 ∧ ∀ k < i + 1, DueAt ns M c k (ds.getD k 0)) ∧ But (P :: own (duE L)) h₅ h := fun d td tk hd h₁₄ pl₁₄ sb => by
          refine ⟨h₁₄, tk, rfl, ⟨ds ++ [d], _, ?_, pl₁₄, ?_, by simp [hdl], ?_⟩, B₁₃.trans (But.of_same sb (by simp))⟩
          · exact (F₁₃.sub _ rfl).frame (Ms := [P]) (But.of_same sb (by simp)) (fun a ha => by rw [List.mem_singleton.mp ha]; exact hPo) (fun a ha => by rw [List.mem_singleton.mp ha]; exact hPb)
          · rw [Array.toList_push]; exact hds.append (.cons d td .nil)
          · intro k hk
            rcases Nat.lt_succ_iff_lt_or_eq.mp hk with q | rfl
            · rw [List.getD_eq_getElem?_getD, List.getElem?_append_left (by omega), ← List.getD_eq_getElem?_getD]; exact hda k q
            · rw [List.getD_eq_getElem?_getD, List.getElem?_append_right (by omega), hdl, Nat.sub_self]; exact hd
        refine wpAny_execs_cons (wpAny_Expr (MethodCall_ (lv F₁₃ rfl (getMethod_list_append hpn rfl rfl (callWith_method1 (args_cons (wpAny_IfExp (isTrue_and (wpAny_isTrue_Compare1 (lv F₁₃ rfl (wpAny_Constant_int (eq_int (wpAny_truthy_bool ?_)))))))))))))
        have hdue : ∀ d, d = (if (sl.getD (M.length - c) 0 == 1 && decide ((held ns (8 - i) : Int) < (c : Int))) = true then 0 else sl.getD (M.length - c) 0) → DueAt ns M c i d := fun d e => ⟨sl, hperm, hsort, e⟩
        by_cases h1 : (sl.getD (M.length - c) 0 == 1) = true
        · refine ifT h1 (isTrue_and (wpAny_isTrue_Compare1 (lv F₁₃ rfl (lv F₁₃ rfl (lt_int (wpAny_truthy_bool ?_))))))
          by_cases h2 : decide ((ys.size : Int) < (c : Int)) = true
          · refine ifT h2 (isTrue_and_nil (ifT rfl (wpAny_Constant_int (args_nil (wpAny_list_append_plain (hsz := hsz) pl₁₃ fun h₁₄ pl₁₄ sb => wpAny_execs_nil ?_)))))
            exact app 0 _ _ (hdue _ (by rw [h1, ← hysz, h2]; rfl)) _ pl₁₄ sb
          · rw [Bool.not_eq_true] at h2
            refine ifF h2 (ifF rfl (lv F₁₃ rfl (args_nil (wpAny_list_append_plain (hsz := hsz) pl₁₃ fun h₁₄ pl₁₄ sb => wpAny_execs_nil ?_))))
            exact app _ _ _ (hdue _ (by rw [← hysz, h2, Bool.and_false]; rfl)) _ pl₁₄ sb
        · rw [Bool.not_eq_true] at h1
          refine ifF h1 (ifF rfl (lv F₁₃ rfl (args_nil (wpAny_list_append_plain (hsz := hsz) pl₁₃ fun h₁₄ pl₁₄ sb => wpAny_execs_nil ?_))))
          exact app _ _ _ (hdue _ (by rw [h1]; rfl)) _ pl₁₄ sb
  · rintro h₄ tk₄ ⟨ds, dvs, f, pl, hds, hdl, hda⟩ bb
    refine wpAny_execs_nil (wpAny_execs_cons (wpAny_Return_some (lv f rfl ?_)))
    exact h _ _ _ _ _ hPb pl hds hdl hda f.keep
end
end Mine

-- part F13
set_option Elab.async false
set_option maxRecDepth 100000
namespace Mine
def hgt (tb : List (Str × Int)) (x : Str) : Int := ((tb.find? fun p => p.1 = x).map (·.2)).getD (-1)
def KvOk (kv : Str × Value) (p : Str × Int) : Prop := kv.1 = p.1 ∧ ∃ t, kv.2 = .int p.2 t
def Tab (w : World) (h : Heap) (d : Addr) (tb : List (Str × Int)) : Prop := (d == sysModules) = false ∧ ∃ kvs : List (Str × Value), h.MapOf (strKind PW w) d (valueAt kvs) ∧ Paired KvOk kvs tb
theorem tab_get {u : Tok} {x : Str} : ∀ {kvs : List (Str × Value)} {tb : List (Str × Int)}, Paired KvOk kvs tb → ∃ t, (valueAt kvs x).getD (.int (-1) u) = .int (hgt tb x) t
  | _, _, .nil => ⟨u, rfl⟩
  | (k, v) :: kvs, (k', n) :: tb, .cons ⟨h1, t, h2⟩ r => by
    obtain ⟨t', e⟩ := tab_get (u := u) (x := x) r
    simp only at h1 h2
    subst h1 h2
    by_cases hk : k = x
    · exact ⟨t, by simp [valueAt, hgt, hk]⟩
    · refine ⟨t', ?_⟩
      rw [show valueAt ((k, Value.int n t) :: kvs) x = valueAt kvs x by simp [valueAt, hk], show hgt ((k, n) :: tb) x = hgt tb x by simp [hgt, hk]]
      exact e
theorem Tab.at {w : World} {h h' : Heap} {d : Addr} {tb : List (Str × Int)} (x : Tab w h d tb) (g : Grown h h') : Tab w h' d tb := by
  obtain ⟨hs, kvs, ⟨o, es, n, ho, r⟩, p⟩ := x
  exact ⟨hs, kvs, ⟨o, es, n, g _ _ ho, r⟩, p⟩
theorem strs_get : ∀ {vs : List Value} {ns : List Str} {i : Nat} {v : Value}, StrsAre vs ns → vs[i]? = some v → ∃ t, v = .str (ns.getD i ⟨#[]⟩) t
  | _, _, 0, _, .cons n t _, h => ⟨t, by simpa using h.symm⟩
  | _, _, i + 1, _, .cons n t r, h => by
    obtain ⟨t', e⟩ := strs_get (i := i) r (by simpa using h)
    exact ⟨t', by simpa using e⟩
def S1 (x : String) : Str := Str.ofString x
def tR : List (Str × Int) := [(Str.ofString "-", 0), (Str.ofString "r", 1)]
def tW : List (Str × Int) := [(Str.ofString "-", 0), (Str.ofString "w", 1)]
def tX : List (Str × Int) := [(Str.ofString "-", 0), (Str.ofString "x", 1), (Str.ofString "s", 2)]
def tT : List (Str × Int) := [(Str.ofString "-", 0), (Str.ofString "x", 1), (Str.ofString "t", 2)]
def rk : List (List (Str × Int)) := [tR, tW, tX, tR, tW, tX, tR, tW, tT]
def heights (xs : List Str) : List Int := (List.range 9).map fun k => hgt (rk.getD k []) (xs.getD k ⟨#[]⟩)
section
variable {w : World} {mg mb : Str → Option Value} {A : Around} {E : Value → Shared → Prop} {s : Shared} {base : Heap} {env : Env} {vs : List (Str × Value)}
theorem big_of (G : Gd w mg mb base) {h : Heap} (g : Grown base h) : sysModules < h.objs.size :=
  Nat.lt_trans (show sysModules < 61 by decide) (Heap.lt_size (g 61 _ (G.X 61 _ rfl)))
theorem dict2 {a b : Str} {m n : Int} {x1 x2 x3 x4 : Nat} {p1 p2 p3 p4 pos : Pos} {Q : Value → Shared → Prop} (hbig : sysModules < s.heap.objs.size) (hn : [a, b].Nodup)
    (h : ∀ d h' tk, s.heap.get? d = none → Tab w h' d [(a, m), (b, n)] → Grown s.heap h' → Q (.ref d) { s with heap := h', toks := tk }) :
    wpAny (MD w) A (eval (.Dict [some (.Constant (.str a) x1 p1), some (.Constant (.str b) x2 p2)] [.Constant (.int m) x3 p3, .Constant (.int n) x4 p4] pos) env) Q E s := by
  refine wpAny_Dict_walk (knd := strKind PW w) rfl rfl (by simp) (by simp) (pairTrees_cons_walk (wpAny_Constant_str (wpAny_Constant_int (pairTrees_cons_walk (wpAny_Constant_str (wpAny_Constant_int (pairTrees_nil_walk ?_)))))))
  refine display_done_str rfl hn (Heap.DictOf.new _) fun h' hm hsb => ?_
  exact h _ h' _ (get_none_of_le (Nat.le_refl _)) ⟨beq_eq_false_iff_ne.mpr (Nat.ne_of_gt hbig), _, hm.mapOf, .cons ⟨rfl, _, rfl⟩ (.cons ⟨rfl, _, rfl⟩ .nil)⟩ fun c o e => (hsb.2 c (Nat.ne_of_lt (Heap.lt_size e))).trans (Heap.get?_push_of_some _ e)
theorem dict3 {a b c : Str} {m n k : Int} {x1 x2 x3 x4 x5 x6 : Nat} {p1 p2 p3 p4 p5 p6 pos : Pos} {Q : Value → Shared → Prop} (hbig : sysModules < s.heap.objs.size) (hn : [a, b, c].Nodup)
    (h : ∀ d h' tk, s.heap.get? d = none → Tab w h' d [(a, m), (b, n), (c, k)] → Grown s.heap h' → Q (.ref d) { s with heap := h', toks := tk }) :
    wpAny (MD w) A (eval (.Dict [some (.Constant (.str a) x1 p1), some (.Constant (.str b) x2 p2), some (.Constant (.str c) x5 p5)] [.Constant (.int m) x3 p3, .Constant (.int n) x4 p4, .Constant (.int k) x6 p6] pos) env) Q E s := by
  refine wpAny_Dict_walk (knd := strKind PW w) rfl rfl (by simp) (by simp) (pairTrees_cons_walk (wpAny_Constant_str (wpAny_Constant_int (pairTrees_cons_walk (wpAny_Constant_str (wpAny_Constant_int (pairTrees_cons_walk (wpAny_Constant_str (wpAny_Constant_int (pairTrees_nil_walk ?_))))))))))
  refine display_done_str rfl hn (Heap.DictOf.new _) fun h' hm hsb => ?_
  exact h _ h' _ (get_none_of_le (Nat.le_refl _)) ⟨beq_eq_false_iff_ne.mpr (Nat.ne_of_gt hbig), _, hm.mapOf, .cons ⟨rfl, _, rfl⟩ (.cons ⟨rfl, _, rfl⟩ (.cons ⟨rfl, _, rfl⟩ .nil))⟩ fun c o e => (hsb.2 c (Nat.ne_of_lt (Heap.lt_size e))).trans (Heap.get?_push_of_some _ e)
theorem addL {a b : Addr} {xs ys : List Value} {Q : Value → Shared → Prop} (ha : s.heap.PlainList a xs.toArray) (hb : s.heap.PlainList b ys.toArray) (hsz : xs.length + ys.length ≤ 1000)
    (h : ∀ P h', s.heap.get? P = none → h'.PlainList P (xs ++ ys).toArray → Grown s.heap h' → Q (.ref P) { s with heap := h' }) : wpAny (MD w) A (binaryOp .Add (.ref a) (.ref b)) Q E s := by
  obtain ⟨n, ha⟩ := ha
  obtain ⟨n', hb⟩ := hb
  refine PySem.P.add_list ha hb (h _ _ (get_none_of_le (Nat.le_refl _)) ⟨0, ?_⟩ fun c o e => Heap.get?_push_of_some _ e) (by rw [sizeLine_eq]; simp; omega)
  rw [show (xs ++ ys).toArray = xs.toArray ++ ys.toArray by simp]
  exact Heap.get?_push_size _ rfl
end
end Mine

-- part F14
set_option Elab.async false
set_option maxRecDepth 100000
namespace Mine
section
variable {w : World} {mg mb : Str → Option Value} {A : Around} {E : Value → Shared → Prop} {s : Shared} {base : Heap} {env : Env} {vs : List (Str × Value)}
theorem isS (x : Str) (t : Tok) : (PySem.strKind PW w).is x (.str x t) = true := by show Value.isStrOf x (.str x t) = true; simp [Value.isStrOf]
theorem args_dict {M : Model} {k : List (Option PySem.Expr)} {v rest : List PySem.Expr} {p pos : Pos} {Q : List Value → Shared → Prop}
    (h : wpAny M A (eval (.Dict k v p) env) (fun v s₁ => wpAny M A (spliced (backTo pos (starEach rest env))) (fun vs s₂ => Q (v :: vs) s₂) E s₁) E s) : wpAny M A (spliced (backTo pos (starEach (.Dict k v p :: rest) env))) Q E s :=
  args_cons h
noncomputable abbrev heE (L : Addr) : Env := envOfC (fName (stm 29)) (fScope (stm 29)) L 124 (.ref 123)
def heTail : List Stmt := (fBody (stm 29)).drop 1
set_option maxHeartbeats 1000000 in
theorem he2 {L a d0 d1 d2 P₅ : Addr} {ls : List Value} {xs : List Str} {Q : Flow → Shared → Prop} (G : Gd w mg mb base) (hh : A.handled = none) (F : FF base (heE L) s.heap [(Str.ofString "signs", .ref a), (Str.ofString "three", .ref P₅)])
    (hl : base.IsList a ls.toArray) (hi : StrsAre ls xs) (hlen : xs.length = 9) (l₅ : s.heap.PlainList P₅ [Value.ref d0, .ref d1, .ref d2].toArray) (T0 : Tab w s.heap d0 tR) (T1 : Tab w s.heap d1 tW) (T2 : Tab w s.heap d2 tX) (hPo : P₅ ∉ own (heE L)) (hds : ∀ d ∈ [d0, d1, d2], d ∉ own (heE L))
    (h : ∀ P dvs h' tk, base.get? P = none → h'.PlainList P dvs → IntsAre dvs.toList (heights xs) → Grown base h' → Q (.ret (.ref P)) { s with heap := h', toks := tk }) :
    wpAny (MD w) A (execs heTail (heE L)) Q E s := by
  refine wpAny_execs_cons ?_
  refine wpAny_Assign_Name ?_
  refine wpAny_BinOp ?_
  refine wpAny_BinOp ?_
  refine wpAny_BinOp ?_
  refine lv F rfl (lv F rfl (addL l₅ l₅ (by simp) fun P₆ h₆ n₆ l₆ g₆ => ?_))
  have F₆ := F.grown g₆
  refine wpAny_Subscript_list_slice (lv F₆ rfl ?_)
  show wpAny _ _ (pure Value.none) _ _ _
  refine wpAny_pure ?_
  show wpAny _ _ (eval _ _) _ _ _
  refine wpAny_Constant_int ?_
  refine ⟨P₅, _, none, some 2, rfl, (l₅.at fun o e => g₆ _ o e).isList, by rw [sizeLine_eq]; simp, .none, .int _ _, ?_⟩
  have e2 : slicePick [Value.ref d0, .ref d1, .ref d2].toArray none (some 2) none = [Value.ref d0, .ref d1].toArray := by
    have := slicePick_upto' [Value.ref d0, .ref d1, .ref d2].toArray 2
    exact this
  rw [e2]
  have key : ∀ h₇, h₇ = (h₆.push { cls := .type "slice", data := .fields #[.none, .int 2 s.toks, .none] }).push { cls := .type "list", data := .seq [Value.ref d0, .ref d1].toArray } → Grown h₆ h₇ ∧ h₇.PlainList (h₆.objs.size + 1) [Value.ref d0, .ref d1].toArray := by
    rintro h₇ rfl
    refine ⟨fun b o e => Heap.get?_push_of_some _ (Heap.get?_push_of_some _ e), ⟨0, ?_⟩⟩
    have := Heap.get?_push_size (h₆.push { cls := .type "slice", data := .fields #[.none, .int 2 s.toks, .none] }) (o := { cls := .type "list", data := .seq [Value.ref d0, .ref d1].toArray }) rfl
    rw [Heap.size_push] at this
    exact this
  obtain ⟨g₇, l₇⟩ := key _ rfl
  refine st_eq { s with heap := (h₆.push { cls := .type "slice", data := .fields #[.none, .int 2 s.toks, .none] }).push { cls := .type "list", data := .seq [Value.ref d0, .ref d1].toArray }, toks := s.toks + 1 } rfl ?_
  revert g₇ l₇
  show ∀ (_ : Grown h₆ _) (_ : Heap.PlainList _ (h₆.objs.size + 1) _), wpAny _ _ (binaryOp .Add _ (.ref (h₆.objs.size + 1))) _ _ _
  generalize (h₆.push { cls := .type "slice", data := .fields #[.none, .int 2 s.toks, .none] }).push { cls := .type "list", data := .seq [Value.ref d0, .ref d1].toArray } = h₇
  intro g₇ l₇
  refine addL (xs := [Value.ref d0, .ref d1, .ref d2] ++ [Value.ref d0, .ref d1, .ref d2]) (ys := [Value.ref d0, .ref d1]) (l₆.at fun o e => g₇ _ o e) l₇ (by simp) fun P₈ h₈ n₈ l₈ g₈ => ?_
  refine List_ ?_
  refine args_dict ?_
  refine dict3 (big_of G ((((F.grown g₆).grown g₇).grown g₈)).keep) ?_ ?_
  · decide +kernel
  intro d3 h₉ tk₉ n₉ T3 g₉
  refine args_nil ?_
  refine newListB (by simp) fun h₁₀ P₁₀ g₁₀ l₁₀ n₁₀ => ?_
  refine addL (xs := [Value.ref d0, .ref d1, .ref d2] ++ [Value.ref d0, .ref d1, .ref d2] ++ [Value.ref d0, .ref d1]) (ys := [Value.ref d3]) (l₈.at fun o e => g₁₀ _ o (g₉ _ o e)) l₁₀ (by simp) fun P₁₁ h₁₁ n₁₁ l₁₁ g₁₁ => ?_
  have gA : Grown s.heap h₁₁ := (((((g₆.trans g₇).trans g₈).trans g₉).trans g₁₀).trans g₁₁)
  have F₁₁ := F.grown gA
  refine sv F₁₁ fun h₁₂ tk₁₂ F₁₂ b₁₂ => ?_
  refine st_eq { s with heap := h₁₂, toks := tk₁₂ } rfl ?_
  have hd3 : d3 ∉ own (heE L) := (((F.grown g₆).grown g₇).grown g₈).notOwn n₉
  have hP11 : P₁₁ ∉ own (heE L) := (((((F.grown g₆).grown g₇).grown g₈).grown g₉).grown g₁₀).notOwn n₁₁
  have l₁₂ : h₁₂.PlainList P₁₁ [Value.ref d0, .ref d1, .ref d2, .ref d0, .ref d1, .ref d2, .ref d0, .ref d1, .ref d3].toArray := l₁₁.at fun o e => b₁₂ _ o hP11 e
  have tabAt : ∀ {d tb}, d ∉ own (heE L) → Tab w h₁₁ d tb → Tab w h₁₂ d tb := fun {d tb} hd x => by
    obtain ⟨hs, kvs, ⟨o, es, n, ho, r⟩, p⟩ := x
    exact ⟨hs, kvs, ⟨o, es, n, b₁₂ _ _ hd ho, r⟩, p⟩
  have T0' := tabAt (hds d0 (by simp)) (T0.at gA)
  have T1' := tabAt (hds d1 (by simp)) (T1.at gA)
  have T2' := tabAt (hds d2 (by simp)) (T2.at gA)
  have T3' : Tab w h₁₂ d3 tT := tabAt hd3 (T3.at (g₁₀.trans g₁₁))
  have hrk : ∀ i < 9, ∃ d, [Value.ref d0, .ref d1, .ref d2, .ref d0, .ref d1, .ref d2, .ref d0, .ref d1, .ref d3][i]? = some (.ref d) ∧ Tab w h₁₂ d (rk.getD i []) := by
    intro i hi9
    match i, hi9 with
    | 0, _ => exact ⟨_, rfl, T0'⟩
    | 1, _ => exact ⟨_, rfl, T1'⟩
    | 2, _ => exact ⟨_, rfl, T2'⟩
    | 3, _ => exact ⟨_, rfl, T0'⟩
    | 4, _ => exact ⟨_, rfl, T1'⟩
    | 5, _ => exact ⟨_, rfl, T2'⟩
    | 6, _ => exact ⟨_, rfl, T0'⟩
    | 7, _ => exact ⟨_, rfl, T1'⟩
    | 8, _ => exact ⟨_, rfl, T3'⟩
  refine wpAny_execs_cons ?_
  refine wpAny_Return_some ?_
  refine lcomp (base := base) (vs := _) (fun _ => true) (fun _ j y _ => ∃ t, y = .int (hgt (rk.getD j []) (xs.getD j ⟨#[]⟩)) t) [(Str.ofString "ranks", .ref P₁₁), (Str.ofString "signs", .ref a)] F₁₂ (cl := [(Str.ofString "signs", L + 1), (Str.ofString "ranks", L + 2)]) rfl ?_ ?_ rfl ?_ rfl rfl (fun _ _ _ _ _ q _ => q) ?_
  · intro q hq
    have e : (heE L).cells = [(Str.ofString "ranks", L + 2), (Str.ofString "signs", L + 1)] := rfl
    rw [e]
    simp only [List.mem_cons, List.not_mem_nil, or_false] at hq ⊢
    exact hq.symm
  · decide +kernel
  · decide +kernel
  refine Call_ ?_
  refine gB F₁₂ G (by kernel_rfl) (by boot_by_name) (by decide) ?_
  refine PyProof.Rows.callWith_type1 ?_
  refine args_cons (wpAny_Constant_int (args_nil (rng1 (n := 9) (by decide) hh fun I St h₁₃ tk₁₃ g₁₃ hI hlt W st₀ al => ?_)))
  refine ⟨I, _, _, _, St, h₁₃, tk₁₃, rfl, rfl, W, by decide, st₀, ?_, hI, al, g₁₃, ?_, ?_, ?_⟩
  · intro b hb; rw [List.mem_singleton.mp hb]; exact hlt
  · intro C j v h tk E' hj hv FC gC
    exact wpAny_tests_nil ⟨rfl, Keeps.rfl'⟩
  · intro X C j v h tk E' hj hv hp FC gC hX
    obtain ⟨tv, rfl⟩ := hv
    obtain ⟨d, hd, T⟩ := hrk j hj
    obtain ⟨hne, kvs, hm, hkv⟩ := T.at gC
    have hT := fun tk => hm.typeIs (s := { s with heap := h, toks := tk })
    have hls : ls.length = 9 := by rw [← hlen]; exact hi.length
    obtain ⟨x, hx⟩ : ∃ x, ls[j]? = some x := ⟨ls[j]'(by omega), List.getElem?_eq_getElem _⟩
    obtain ⟨t', rfl⟩ := strs_get hi hx
    refine MethodCall_ ?_
    refine Subscript_ ?_
    refine lv FC rfl (lv FC rfl ?_)
    refine list_item (M := MD w) (l₁₂.at fun o e => gC _ o e).isList (by omega) (by omega) (by simpa using hd) ?_ (by rfl)
    refine getMethod_builtin (hT _) PySem.F.plainAttrs_dict PySem.F.slot_dict_get PySem.F.type_dict_get hm.noDict ?_
    refine callWith_method1 ?_
    refine args_cons ?_
    refine Subscript_ ?_
    refine lv FC rfl (lv FC rfl ?_)
    refine list_item (M := MD w) (hl.at fun o e => FC.keep _ o e) (by omega) (by omega) (by simpa using hx) ?_ (by rfl)
    refine args_cons ?_
    refine UnaryOp_ (wpAny_Constant_int (neg_int ?_))
    refine args_nil ?_
    refine call_meetsIn PySem.F.slot_dict_get (hT _) PySem.F.entry_dict_get (PySem.F.args_dict_get_3 _ _ _) (meets_dict_get_default (strKind PW w) d (k := xs.getD j ⟨#[]⟩) (isS _ _) hne _) ⟨_, hm, ?_⟩
    exact ⟨tab_get hkv, Keeps.toks⟩
  · intro X D h₁₄ tk₁₄ ys hX hD hPl hPd g₁₄
    refine h D ys h₁₄ tk₁₄ (F₁₂.fresh (hX D hD)) hPl ?_ (F₁₂.keep.trans g₁₄)
    rw [filter_all] at hPd
    exact ints_of hPd
set_option maxHeartbeats 1000000 in
theorem c_heights {a : Addr} {ls : List Value} {xs : List Str} {Q : Value → Shared → Prop} (G : Gd w mg mb s.heap) (R : Room A 1) (hl : s.heap.IsList a ls.toArray) (hi : StrsAre ls xs) (hlen : xs.length = 9)
    (h : ∀ P dvs h' tk, s.heap.get? P = none → h'.PlainList P dvs → IntsAre dvs.toList (heights xs) → Grown s.heap h' → Q (.ref P) { s with heap := h', toks := tk }) :
    wpAny (MD w) A (call (.ref 124) [.ref a]) Q E s := by
  refine call_fc (f := 124) (c := 123) (name := fName (stm 29)) (params := fParams (stm 29)) (body := fBody (stm 29)) (scope := fScope (stm 29)) [(Str.ofString "signs", .ref a)] G (by have := R.d; omega) rfl rfl (by kernel_rfl) rfl ?_ (by show List.Nodup [Str.ofString "signs"]; decide +kernel) (by decide +kernel) (fun L h₁ tk₁ F => ?_) rfl rfl rfl
  · intro x hx
    simp only [List.mem_cons, List.not_mem_nil, or_false] at hx
    subst hx; exact .inr ⟨rfl, rfl⟩
  have hh : (A.deeper (heE L)).handled = none := R.h
  generalize A.deeper (heE L) = A' at hh ⊢
  refine wpAny_execs_cons ?_
  refine wpAny_Assign_Name ?_
  refine List_ ?_
  refine args_dict ?_
  refine dict2 (big_of G F.keep) ?_ ?_
  · decide +kernel
  intro d0 h₂ tk₂ n₂ T0 g₂
  refine args_dict ?_
  refine dict2 (big_of G (F.grown g₂).keep) ?_ ?_
  · decide +kernel
  intro d1 h₃ tk₃ n₃ T1 g₃
  refine args_dict ?_
  refine dict3 (big_of G ((F.grown g₂).grown g₃).keep) ?_ ?_
  · decide +kernel
  intro d2 h₄ tk₄ n₄ T2 g₄
  refine args_nil ?_
  refine newListB (by simp) fun h₅ P₅ g₅ l₅ n₅ => ?_
  refine st_eq { s with heap := h₅, toks := tk₄ } rfl ?_
  have F₂ := F.grown g₂
  have F₃ := F₂.grown g₃
  have F₄ := F₃.grown g₄
  have F₅ := F₄.grown g₅
  refine sv F₅ fun h₆ tk₆ F₆ b₆ => ?_
  refine st_eq { s with heap := h₆, toks := tk₆ } rfl ?_
  have hP : P₅ ∉ own (heE L) := F₄.notOwn n₅
  have o0 : d0 ∉ own (heE L) := F.notOwn n₂
  have o1 : d1 ∉ own (heE L) := F₂.notOwn n₃
  have o2 : d2 ∉ own (heE L) := F₃.notOwn n₄
  have tabAt : ∀ {d tb}, d ∉ own (heE L) → Tab w h₅ d tb → Tab w h₆ d tb := fun {d tb} hd x => by
    obtain ⟨hs, kvs, ⟨o, es, n, ho, r⟩, p⟩ := x
    exact ⟨hs, kvs, ⟨o, es, n, b₆ _ _ hd ho, r⟩, p⟩
  refine he2 (base := s.heap) (a := a) (d0 := d0) (d1 := d1) (d2 := d2) (P₅ := P₅) G hh (F₆.sub _ rfl) hl hi hlen (l₅.at fun o e => b₆ _ o hP e) (tabAt o0 (T0.at ((g₃.trans g₄).trans g₅))) (tabAt o1 (T1.at (g₄.trans g₅))) (tabAt o2 (T2.at g₅)) hP ?_ ?_
  · intro d hd
    simp only [List.mem_cons, List.not_mem_nil, or_false] at hd
    rcases hd with rfl | rfl | rfl
    · exact o0
    · exact o1
    · exact o2
  · intro P dvs h' tk n pl i g
    exact h P dvs h' tk n pl i g
end
end Mine

-- part F15
set_option Elab.async false
set_option maxRecDepth 100000
namespace Mine
def ch (c : Nat) : Str := ⟨#[c]⟩
def txt (l : List Nat) : Str := ⟨l.toArray⟩
def okF (row sg : List Nat) (mode : Int) (k : Nat) : Bool :=
  !((([row.getD k 0] : List Nat) != [sg.getD k 0]) && ((row.getD k 0 : Int) + 32 != (sg.getD k 0 : Int))) &&
  !((([sg.getD k 0] != (Str.ofString "-").cps.toList) && ([sg.getD k 0] == [row.getD k 0])) != (bt mode (8 - k) == 1))
def fits (row sg : List Nat) (mode : Int) : Bool := (List.range 9).all fun k => okF row sg mode k
section
variable {w : World} {mg mb : Str → Option Value} {A : Around} {E : Value → Shared → Prop} {s : Shared} {base : Heap} {env : Env} {vs : List (Str × Value)}
theorem str_item {value slice : PySem.Expr} {xs : List Nat} {k : Nat} {t u : Tok} {Q : Value → Shared → Prop} (hk : k < xs.length) (hb : k < 1000) (h : ∀ t tk, Q (.str (ch (xs.getD k 0)) t) { s with toks := tk })
    (hs : subscripted slice false (.str (txt xs) t) (.int (k : Int) u) = operate [.str (txt xs) t, .int (k : Int) u] (getItem (.str (txt xs) t) (.int (k : Int) u)) := by with_unfolding_all rfl) :
    wpAny (MD w) A (subscriptTail value slice (.str (txt xs) t) (.int (k : Int) u)) Q E s := by
  refine tail_any (typeIs_str _ _ _) PySem.F.slot_str_getitem.lookup (PySem.P.getItem_str (c := xs.getD k 0) ?_ ?_ (h _ _)) hs
  · simp; omega
  · have e : (txt xs).length = xs.length := by simp [txt, Str.length]
    have e2 : seqIndex? (k : Int) (txt xs).length = some k := by
      rw [e]; unfold seqIndex?; simp; omega
    rw [e2]
    simp [txt, List.getD_eq_getElem?_getD, hk]
noncomputable abbrev fiE (L : Addr) : Env := envOfC (fName (stm 30)) (fScope (stm 30)) L 131 (.ref 130)
def fiLoop : List Stmt := forBody ((fBody (stm 30)).getD 0 (.Pass nowhere))
set_option maxHeartbeats 1000000 in
theorem fits_turn {L a : Addr} {row sg : List Nat} {ls : List Value} {mode : Int} {t u tv ts : Tok} {i : Nat} {Z : Flow → Shared → Prop} (hi9 : i < 9) (hr : row.length = 9) (F₃ : FF base (fiE L) s.heap [(Str.ofString "k", .int (i : Int) tv), (Str.ofString "row", .str (txt row) t), (Str.ofString "signs", .ref a), (Str.ofString "mode", .int mode u)])
    (hl₃ : s.heap.IsList a ls.toArray) (hx' : ls.toArray[((i : Nat) : Int).toNat]? = some (.str (ch (sg.getD i 0)) ts)) (G : Gd w mg mb base)
    (hret : okF row sg mode i = false → ∀ tk, Z (.ret (.bool false)) { s with toks := tk }) (hnext : okF row sg mode i = true → ∀ tk, Z .next { s with toks := tk }) :
    wpAny (MD w) A (execs fiLoop (fiE L)) Z E s := by
  have rowI : ∀ {pos : Pos} {p1 p2 : Pos} {tk : Nat} {Q' : Value → Shared → Prop} {E' : Value → Shared → Prop}, (∀ t tk, Q' (.str (ch (row.getD i 0)) t) { s with toks := tk }) → wpAny (MD w) A (eval (.Subscript (.Name (Str.ofString "row") p1) (.Name (Str.ofString "k") p2) pos) (fiE L)) Q' E' { s with toks := tk } := fun hq =>
    Subscript_ (lv F₃ rfl (lv F₃ rfl (str_item (by omega) (by omega) hq)))
  have sgI : ∀ {pos : Pos} {p1 p2 : Pos} {tk : Nat} {Q' : Value → Shared → Prop} {E' : Value → Shared → Prop}, (Q' (.str (ch (sg.getD i 0)) ts) { s with toks := tk }) → wpAny (MD w) A (eval (.Subscript (.Name (Str.ofString "signs") p1) (.Name (Str.ofString "k") p2) pos) (fiE L)) Q' E' { s with toks := tk } := fun hq =>
    Subscript_ (lv F₃ rfl (lv F₃ rfl (list_item (M := MD w) hl₃ (by omega) (by omega) hx' hq)))
  have e8 : 8 - (i : Int) = ((8 - i : Nat) : Int) := by omega
  have second : okF row sg mode i = !((([sg.getD i 0] != (Str.ofString "-").cps.toList) && ([sg.getD i 0] == [row.getD i 0])) != (bt mode (8 - i) == 1)) → ∀ tk, wpAny (MD w) A (execs (fiLoop.drop 1) (fiE L)) Z E { s with toks := tk } := fun hok tk => by
    refine wpAny_execs_cons ?_
    refine wpAny_If ?_
    refine wpAny_isTrue_Compare1 ?_
    refine wpAny_And2 ?_
    refine wpAny_Compare1 ?_
    refine sgI ?_
    refine wpAny_Constant_str (PySem.P.ne_str (wpAny_truthy_bool ?_))
    cases h1 : ([sg.getD i 0] != (Str.ofString "-").cps.toList) with
    | false =>
      refine ifF h1 ?_
      refine wpAny_Compare1 ?_
      refine ev_bit (a := mode) (k := 8 - i) (by omega) (lv F₃ rfl ⟨_, rfl, fun tk => wpAny_BinOp (wpAny_Constant_int (lv F₃ rfl (sub_int ⟨_, congrArg (Value.int · _) e8, fun t₇ tk₇ => ?_⟩)))⟩)
      refine wpAny_Constant_int (eq_int (ne_bool (wpAny_truthy_bool ?_)))
      cases hc : (false != (bt mode (8 - i) == 1)) with
      | true =>
        refine ifT (by show (([sg.getD i 0] != (Str.ofString "-").cps.toList) != (bt mode (8 - i) == 1)) = true; rw [h1]; exact hc) (wpAny_execs_cons (wpAny_Return_some (wpAny_Constant_bool ?_)))
        exact hret (by rw [hok, h1, Bool.false_and, hc]; rfl) _
      | false =>
        refine ifF (by show (([sg.getD i 0] != (Str.ofString "-").cps.toList) != (bt mode (8 - i) == 1)) = false; rw [h1]; exact hc) (wpAny_execs_nil (wpAny_execs_nil ?_))
        exact hnext (by rw [hok, h1, Bool.false_and, hc]; rfl) _
    | true =>
      refine ifT h1 ?_
      refine wpAny_Compare1 ?_
      refine sgI ?_
      refine rowI fun t₅ tk₅ => ?_
      refine PySem.P.eq_str ?_
      refine wpAny_Compare1 ?_
      refine ev_bit (a := mode) (k := 8 - i) (by omega) (lv F₃ rfl ⟨_, rfl, fun tk => wpAny_BinOp (wpAny_Constant_int (lv F₃ rfl (sub_int ⟨_, congrArg (Value.int · _) e8, fun t₇ tk₇ => ?_⟩)))⟩)
      refine wpAny_Constant_int (eq_int (ne_bool (wpAny_truthy_bool ?_)))
      cases hc : (([sg.getD i 0] == [row.getD i 0]) != (bt mode (8 - i) == 1)) with
      | true =>
        refine ifT hc (wpAny_execs_cons (wpAny_Return_some (wpAny_Constant_bool ?_)))
        exact hret (by rw [hok, h1, Bool.true_and, hc]; rfl) _
      | false =>
        refine ifF hc (wpAny_execs_nil (wpAny_execs_nil ?_))
        exact hnext (by rw [hok, h1, Bool.true_and, hc]; rfl) _
  refine wpAny_execs_cons ?_
  refine wpAny_If ?_
  refine isTrue_and ?_
  refine wpAny_isTrue_Compare1 ?_
  refine rowI fun t₅ tk₅ => ?_
  refine sgI ?_
  refine PySem.P.ne_str (wpAny_truthy_bool ?_)
  cases h1 : (([row.getD i 0] : List Nat) != [sg.getD i 0]) with
  | false =>
    refine ifF h1 (ifF rfl (wpAny_execs_nil ?_))
    exact second (by unfold okF; rw [h1, Bool.false_and]; rfl) _
  | true =>
    refine ifT h1 ?_
    refine isTrue_and ?_
    refine wpAny_isTrue_Compare1 ?_
    refine wpAny_BinOp ?_
    refine Call_ ?_
    refine gB F₃ G (by kernel_rfl) (by boot_by_name) (by decide) ?_
    refine callWith_builtin1 (args_cons (rowI fun t₆ tk₆ => args_nil (P.ord_of_char (wpAny_Constant_int (add_int ?_)))))
    refine Call_ ?_
    refine gB F₃ G (by kernel_rfl) (by boot_by_name) (by decide) ?_
    refine callWith_builtin1 (args_cons (sgI (args_nil (P.ord_of_char (ne_int (wpAny_truthy_bool ?_))))))
    cases h2 : ((row.getD i 0 : Int) + 32 != (sg.getD i 0 : Int)) with
    | true =>
      refine ifT rfl (isTrue_and_nil (ifT rfl (wpAny_execs_cons (wpAny_Return_some (wpAny_Constant_bool ?_)))))
      exact hret (by unfold okF; rw [h1, h2]; rfl) _
    | false =>
      refine ifF rfl (ifF rfl (wpAny_execs_nil ?_))
      exact second (by unfold okF; rw [h1, h2]; rfl) _
set_option maxHeartbeats 1000000 in
theorem c_fits {row sg : List Nat} {a : Addr} {ls : List Value} {mode : Int} {t u : Tok} {Q : Value → Shared → Prop} (G : Gd w mg mb s.heap) (R : Room A 1) (hl : s.heap.IsList a ls.toArray) (hi : StrsAre ls (sg.map ch)) (hr : row.length = 9) (hg : sg.length = 9)
    (h : ∀ h' tk, Grown s.heap h' → Q (.bool (fits row sg mode)) { s with heap := h', toks := tk }) :
    wpAny (MD w) A (call (.ref 131) [.str (txt row) t, .ref a, .int mode u]) Q E s := by
  refine call_fc (f := 131) (c := 130) (name := fName (stm 30)) (params := fParams (stm 30)) (body := fBody (stm 30)) (scope := fScope (stm 30)) [(Str.ofString "row", .str (txt row) t), (Str.ofString "signs", .ref a), (Str.ofString "mode", .int mode u)] G (by have := R.d; omega) rfl rfl (by kernel_rfl) rfl ?_ (by show List.Nodup [Str.ofString "row", Str.ofString "signs", Str.ofString "mode"]; decide +kernel) (by decide +kernel) (fun L h₁ tk₁ F => ?_) rfl rfl rfl
  · intro x hx
    simp only [List.mem_cons, List.not_mem_nil, or_false] at hx
    rcases hx with rfl | rfl | rfl <;> exact .inl rfl
  have hh : (A.deeper (fiE L)).handled = none := R.h
  generalize A.deeper (fiE L) = A' at hh ⊢
  refine wpAny_execs_cons (wpAny_For (Call_ (gB F G (by kernel_rfl) (by boot_by_name) (by decide) (callWith_type1 (args_cons (wpAny_Constant_int (args_nil (rng1 (n := 9) (by decide) hh fun I St h₂ tk₂ g₂ hI hlt W st₀ al => ?_))))))))
  have F₂ := F.grown g₂
  have hIo : ∀ a ∈ own (fiE L), a ∉ [I] := fun a ha q => F.notOwn hI (List.mem_singleton.mp q ▸ ha)
  have hlen : ls.length = 9 := by rw [hi.length, List.length_map, hg]
  refine for_ff (own (fiE L)) (fun i h => FF s.heap (fiE L) h [(Str.ofString "row", .str (txt row) t), (Str.ofString "signs", .ref a), (Str.ofString "mode", .int mode u)] ∧ ∀ k < i, okF row sg mode k = true) W hIo ?_ st₀ ⟨F₂, by omega⟩ ?_ ?_
  · rintro i h h' ⟨f, r⟩ bb
    exact ⟨f.frame bb (fun a ha => by rw [List.mem_singleton.mp ha]; exact F.notOwn hI) (fun a ha => by rw [List.mem_singleton.mp ha]; exact F.fresh hI), r⟩
  · rintro i v h₀ tk hi9 ⟨tv, rfl⟩ ⟨f, r⟩ bb
    refine wpAny_assign_Name (sv f fun h₃ tk₃ F₃ b₃ => ?_)
    refine st_eq { s with heap := h₃, toks := tk₃ } rfl ?_
    have ret : okF row sg mode i = false → ∀ h' tk, Grown s.heap h' → Q (.bool false) { s with heap := h', toks := tk } := fun ho h' tk g => by
      have e : fits row sg mode = false := by
        unfold fits; rw [List.all_eq_false]; exact ⟨i, List.mem_range.mpr hi9, by rw [ho]; decide⟩
      rw [← e]; exact h h' tk g
    have Fc := F₃.sub [(Str.ofString "row", .str (txt row) t), (Str.ofString "signs", .ref a), (Str.ofString "mode", .int mode u)] rfl
    have nxt : okF row sg mode i = true → ∀ tk, ∃ h_1 tk_1, ({ s with heap := h₃, toks := tk } : Shared) = { s with heap := h_1, toks := tk_1 } ∧ (FF s.heap (fiE L) h_1 [(Str.ofString "row", .str (txt row) t), (Str.ofString "signs", .ref a), (Str.ofString "mode", .int mode u)] ∧ ∀ k < i + 1, okF row sg mode k = true) ∧ But (own (fiE L)) h₀ h_1 := fun ho tk =>
      ⟨h₃, tk, rfl, ⟨Fc, fun k hk => by rcases Nat.lt_succ_iff_lt_or_eq.mp hk with q | rfl; exact r k q; exact ho⟩, b₃⟩
    obtain ⟨x, hx⟩ : ∃ x, ls[i]? = some x := ⟨ls[i]'(by omega), List.getElem?_eq_getElem _⟩
    obtain ⟨ts, rfl⟩ := strs_get hi hx
    have eg : (sg.map ch).getD i ⟨#[]⟩ = ch (sg.getD i 0) := by
      rw [List.getD_eq_getElem?_getD, List.getElem?_map, List.getD_eq_getElem?_getD, List.getElem?_eq_getElem (by omega)]; rfl
    rw [eg] at hx
    refine fits_turn (row := row) (sg := sg) (ls := ls) (mode := mode) (base := s.heap) hi9 hr (F₃.sub _ rfl) (hl.at fun o e => F₃.keep _ o e) (by simpa using hx) G ?_ ?_
    · intro ho tk; exact ret ho _ _ F₃.keep
    · intro ho tk; exact nxt ho _
  · rintro h₃ tk₃ ⟨f, r⟩ bb
    refine wpAny_execs_nil (wpAny_execs_cons (wpAny_Return_some (wpAny_Constant_bool ?_)))
    have e : fits row sg mode = true := by unfold fits; rw [List.all_eq_true]; exact fun k hk => r k (List.mem_range.mp hk)
    rw [← e]; exact h _ _ f.keep
end
end Mine

-- part F16
open PySem
namespace Mine
set_option maxRecDepth 100000
def fold (c : Nat) : Nat := if c = 83 ∨ c = 84 then c + 32 else c
def sgns : List Nat := [45, 114, 119, 120, 115, 83, 116, 84]
theorem fold_all : (sgns.all fun c => (List.range 12).all fun f => b3 (laid c f) == ⟨#[fold c]⟩) = true := by decide +kernel
theorem low_all : (sgns.all fun c => (List.range 12).all fun f => (Txt.lower ⟨#[laid c f]⟩).length ≤ 100) = true := by decide +kernel
end Mine

-- part F17
set_option Elab.async false
set_option maxRecDepth 100000
namespace Mine
def GoodKv (kvs : List (Str × Value)) : Prop := ∀ kv ∈ kvs, ∃ c t, kv.1 = ch c ∧ kv.2 = .str (b3 c) t
theorem ch_inj {a b : Nat} (h : ch a = ch b) : a = b := by simpa [ch] using h
theorem good_at {kvs : List (Str × Value)} (g : GoodKv kvs) {c : Nat} {v : Value} (h : valueAt kvs (ch c) = some v) : ∃ t, v = .str (b3 c) t := by
  unfold valueAt at h
  obtain ⟨kv, h1, h2⟩ := Option.map_eq_some_iff.mp h
  have hm := List.mem_of_find?_eq_some h1
  have hk := List.find?_some h1
  obtain ⟨c', t, e1, e2⟩ := g kv hm
  have e3 : kv.1 = ch c := by simpa using hk
  rw [e1] at e3
  obtain rfl := ch_inj e3
  exact ⟨t, h2 ▸ e2⟩
theorem stored_new {kvs : List (Str × Value)} {k : Str} {v : Value} (h : valueAt kvs k = none) : stored kvs k v = kvs ++ [(k, v)] := by
  unfold stored
  rw [if_neg]
  intro q
  obtain ⟨kv, hm, hk⟩ := List.any_eq_true.mp q
  unfold valueAt at h
  rw [Option.map_eq_none_iff, List.find?_eq_none] at h
  exact h kv hm hk
theorem valueAt_app {kvs : List (Str × Value)} {k k' : Str} {v : Value} (h : (valueAt kvs k').isSome = true ∨ k' = k) : (valueAt (kvs ++ [(k, v)]) k').isSome = true := by
  unfold valueAt at h ⊢
  rw [List.find?_append]
  rcases h with h | rfl
  · rw [Option.isSome_map] at h ⊢
    rw [Option.isSome_or, h]; rfl
  · rw [Option.isSome_map, Option.isSome_or]; simp
section
variable {w : World} {mg mb : Str → Option Value} {A : Around} {E : Value → Shared → Prop} {s : Shared} {base : Heap} {env : Env} {vs : List (Str × Value)}
noncomputable abbrev foE (L : Addr) : Env := envOfC (fName (stm 28)) (fScope (stm 28)) L 119 (.ref 118)
def foLoop : List Stmt := forBody ((fBody (stm 28)).getD 2 (.Pass nowhere))
def foVs (a D P S : Addr) (tn : Nat) (tt rt : Tok) (row : List Nat) : List (Str × Value) := [(Str.ofString "rows", .ref a), (Str.ofString "turn", .int (tn : Int) tt), (Str.ofString "folds", .ref D), (Str.ofString "folded", .ref P), (Str.ofString "row", .str (txt row) rt), (Str.ofString "signs", .ref S)]
theorem DictOf.but {h h' : Heap} {D : Addr} {kvs : List (Str × Value)} (x : h.DictOf (PySem.strKind PW w) D kvs) (e : ∀ o, h.get? D = some o → h'.get? D = some o) : h'.DictOf (PySem.strKind PW w) D kvs := by
  obtain ⟨o, es, ep, ho, r⟩ := x; exact ⟨o, es, ep, e _ ho, r⟩
set_option maxHeartbeats 1000000 in
theorem fo_inner {L a D P S : Addr} {tn : Nat} {tt rt : Tok} {row cs : List Nat} {ls : List Value} {kvs : List (Str × Value)} {n : Nat} {Z : Flow → Shared → Prop} (G : Gd w mg mb base) (R : Room A 1) (F : FF base (foE L) s.heap (foVs a D P S tn tt rt row))
    (hS : s.heap.IsList S ls.toArray) (hi : StrsAre ls (cs.map ch)) (hcs : cs.length ≤ 9) (hD : s.heap.DictOf (PySem.strKind PW w) D kvs) (hn : kvs.length ≤ n) (hn' : n ≤ 900) (hg : GoodKv kvs) (hDo : D ∉ own (foE L)) (hDb : base.get? D = none) (hSo : S ∉ own (foE L)) (hSD : S ≠ D)
    (hlow : ∀ c ∈ cs, (Txt.lower ⟨#[c]⟩).length ≤ 100) (hDs : (D == sysModules) = false)
    (h : ∀ h' tk kvs', FF base (foE L) h' (foVs a D P S tn tt rt row) → h'.DictOf (PySem.strKind PW w) D kvs' → kvs'.length ≤ n + cs.length → GoodKv kvs' → (∀ j < cs.length, (valueAt kvs' (ch (cs.getD j 0))).isSome = true) → But (D :: own (foE L)) s.heap h' → Z .next { s with heap := h', toks := tk }) :
    wpAny (MD w) A (exec (foLoop.getD 1 (.Pass nowhere)) (foE L)) Z E s := by
  refine wpAny_For ?_
  refine lv F rfl (itl hS R.h fun I St h₂ tk₂ g₂ hI hlt W st₀ al => ?_)
  have F₂ := F.grown g₂
  have hls : ls.length = cs.length := by rw [hi.length, List.length_map]
  have hDI : D ≠ I := fun e => by obtain ⟨o, es, ep, ho, _⟩ := hD; rw [e, hI] at ho; cases ho
  refine for_ff (D :: own (foE L)) (fun i h => ∃ kvs, FF base (foE L) h (foVs a D P S tn tt rt row) ∧ h.DictOf (PySem.strKind PW w) D kvs ∧ kvs.length ≤ n + i ∧ GoodKv kvs ∧ ∀ j < i, (valueAt kvs (ch (cs.getD j 0))).isSome = true) W ?_ ?_ st₀ ⟨kvs, F₂, DictOf.but hD fun o e => g₂ _ o e, by omega, hg, by omega⟩ ?_ ?_
  · intro x hx q
    simp only [List.mem_cons, List.not_mem_nil, or_false] at q
    rcases q with rfl | rfl
    · rcases List.mem_cons.mp hx with e | hx
      · exact hDI e.symm
      · exact F.notOwn hI hx
    · rcases List.mem_cons.mp hx with e | hx
      · exact hSD e
      · exact hSo hx
  · rintro i h h' ⟨kvs, f, d, r⟩ bb
    exact ⟨kvs, f.frame bb (fun a ha => by rw [List.mem_singleton.mp ha]; exact F.notOwn hI) (fun a ha => by rw [List.mem_singleton.mp ha]; exact F.fresh hI), DictOf.but d fun o e => bb _ o (by simpa using hDI) e, r⟩
  · rintro i v h₀ tk hi9 hv ⟨kvs, f, d, hn2, hg2, hc⟩ bb
    have hi9' : i < cs.length := by simpa [hls] using hi9
    obtain ⟨ts, rfl⟩ := strs_get hi (by simpa using hv)
    have eg : (cs.map ch).getD i ⟨#[]⟩ = ch (cs.getD i 0) := by
      rw [List.getD_eq_getElem?_getD, List.getElem?_map, List.getD_eq_getElem?_getD, List.getElem?_eq_getElem (by omega)]; rfl
    rw [eg]
    have hcm : cs.getD i 0 ∈ cs := by rw [List.getD_eq_getElem?_getD, List.getElem?_eq_getElem hi9']; exact List.getElem_mem _
    refine wpAny_assign_Name (sv f fun h₃ tk₃ F₃ b₃ => ?_)
    refine st_eq { s with heap := h₃, toks := tk₃ } rfl ?_
    have d₃ : h₃.DictOf (PySem.strKind PW w) D kvs := DictOf.but d fun o e => b₃ _ o hDo e
    have b₃' : But (D :: own (foE L)) h₀ h₃ := b₃.mono fun _ q => List.mem_cons_of_mem _ q
    refine wpAny_execs_cons ?_
    refine wpAny_If ?_
    refine wpAny_isTrue_Compare1 ?_
    refine lv F₃ rfl (lv F₃ rfl (wpAny_notIn_of (knd := PySem.strKind PW w) (isS _ _) hDs d₃.mapOf (wpAny_truthy_bool ?_)))
    cases hv : valueAt kvs (ch (cs.getD i 0)) with
    | some v =>
      refine ifF rfl (wpAny_execs_nil (wpAny_execs_nil ?_))
      refine ⟨h₃, _, rfl, ⟨kvs, F₃.sub _ rfl, d₃, by omega, hg2, fun j hj => ?_⟩, b₃'⟩
      rcases Nat.lt_succ_iff_lt_or_eq.mp hj with q | rfl
      · exact hc j q
      · rw [hv]; rfl
    | none =>
      refine ifT rfl ?_
      refine wpAny_execs_cons ?_
      refine wpAny_Assign_Subscript ?_
      refine Call_ ?_
      refine gK (v := .ref 107) F₃ G (by kernel_rfl) ?_
      refine callWith_def (o := ob107) rfl ?_
      refine args_cons (lv F₃ rfl (args_nil ⟨F₃.keep _ _ (G.X 107 _ rfl), ?_⟩))
      refine c_b3 (c := cs.getD i 0) (G.keeps F₃.keep) R (hlow _ hcm) fun t₄ h₄ tk₄ g₄ => ?_
      refine st_eq { s with heap := h₄, toks := tk₄ } rfl ?_
      have F₄ := F₃.grown g₄
      refine lv F₄ rfl (lv F₄ rfl ?_)
      refine wpAny_setItem_pairs (knd := PySem.strKind PW w) (isS _ _) (DictOf.but d₃ fun o e => g₄ _ o e) (fun h₅ d₅ sb => ?_) (by rw [sizeLine_eq]; omega)
      rw [stored_new hv] at d₅
      refine wpAny_execs_nil (wpAny_execs_nil ?_)
      refine ⟨h₅, _, rfl, ⟨_, ?_, d₅, by simp; omega, ?_, fun j hj => ?_⟩, b₃'.trans ((But.of_grown g₄).trans (But.of_same sb (by simp)))⟩
      · exact (F₄.sub (foVs a D P S tn tt rt row) rfl).frame (Ms := [D]) (But.of_same sb (by simp)) (fun a ha => by rw [List.mem_singleton.mp ha]; exact hDo) (fun a ha => by rw [List.mem_singleton.mp ha]; exact hDb)
      · intro kv hkv
        rcases List.mem_append.mp hkv with q | q
        · exact hg2 kv q
        · rw [List.mem_singleton.mp q]; exact ⟨_, _, rfl, rfl⟩
      · refine valueAt_app ?_
        rcases Nat.lt_succ_iff_lt_or_eq.mp hj with q | rfl
        · exact .inl (hc j q)
        · exact .inr rfl
  · rintro h₃ tk₃ ⟨kvs, f, d, hn2, hg2, hc⟩ bb
    refine wpAny_execs_nil ?_
    have e : ls.toArray.size = cs.length := by simp [hls]
    rw [e] at hn2 hc
    refine h h₃ tk₃ kvs f d hn2 hg2 hc ?_
    intro b o nb e
    refine bb b o (fun q => ?_) (g₂ b o e)
    rcases List.mem_append.mp q with q | q
    · exact nb q
    · rw [List.mem_singleton.mp q, hI] at e; cases e
end
end Mine

-- part F18
set_option Elab.async false
set_option maxRecDepth 100000
namespace Mine
def TR (X : List Addr) (h : Heap) (v : Value) (cs : List Nat) : Prop := ∃ p ls, v = .ref p ∧ p ∉ X ∧ h.IsList p ls.toArray ∧ StrsAre ls (cs.map ch)
theorem TR.but {X : List Addr} {h h' : Heap} {v : Value} {cs : List Nat} (b : But X h h') (x : TR X h v cs) : TR X h' v cs := let ⟨p, ls, e, n, l, i⟩ := x; ⟨p, ls, e, n, l.at fun o e => b _ o n e, i⟩
theorem strs_of {f : Nat → Nat} : ∀ {is : List Nat} {ys : List Value}, Paired (fun i y => ∃ t, y = Value.str (ch (f i)) t) is ys → StrsAre ys ((is.map f).map ch)
  | _, _, .nil => .nil
  | _, _, .cons ⟨t, e⟩ r => by subst e; exact .cons _ t (strs_of r)
def lays (row : List Nat) (tn : Nat) : List Nat := (List.range 9).map fun j => laid (row.getD j 0) (((tn + j) % 12 : Nat) : Int)
theorem fold_at {c : Nat} (hc : c ∈ sgns) {f : Nat} (hf : f < 12) : b3 (laid c f) = ch (fold c) := by
  have := List.all_eq_true.mp (List.all_eq_true.mp fold_all c hc) f (List.mem_range.mpr hf)
  exact eq_of_beq this
theorem low_at {c : Nat} (hc : c ∈ sgns) {f : Nat} (hf : f < 12) : (Txt.lower ⟨#[laid c f]⟩).length ≤ 100 := by
  have := List.all_eq_true.mp (List.all_eq_true.mp low_all c hc) f (List.mem_range.mpr hf)
  simpa using this
theorem getD_mem {l : List Nat} {j : Nat} (h : j < l.length) : l.getD j 0 ∈ l := by rw [List.getD_eq_getElem?_getD, List.getElem?_eq_getElem h]; exact List.getElem_mem _
theorem map_getD_row {row : List Nat} (h : row.length = 9) (f : Nat → Nat) : ((List.range 9).map fun j => f (row.getD j 0)) = row.map f := by
  apply List.ext_getElem
  · simp [h]
  · intro i h1 h2
    have : i < row.length := by simpa using h2
    simp [List.getD_eq_getElem?_getD, this]
section
variable {w : World} {mg mb : Str → Option Value} {A : Around} {E : Value → Shared → Prop} {s : Shared} {base : Heap} {env : Env} {vs : List (Str × Value)}
theorem dict_item {value slice : PySem.Expr} {D : Addr} {f : Str → Option Value} {k : Str} {u : Tok} {v : Value} {Q : Value → Shared → Prop} (hm : s.heap.MapOf (PySem.strKind PW w) D f) (hv : f k = some v) (h : ∀ tk, Q v { s with toks := tk })
    (hs : subscripted slice false (.ref D) (.str k u) = operate [.ref D, .str k u] (getItem (.ref D) (.str k u)) := by with_unfolding_all rfl) :
    wpAny (MD w) A (subscriptTail value slice (.ref D) (.str k u)) Q E s :=
  tail_any hm.typeIs slot_dict_getitem.lookup (wpAny_getItem_of (knd := PySem.strKind PW w) (isS _ _) hm hv (h _)) hs
set_option maxHeartbeats 1000000 in
theorem fo_turn {L a D P I : Addr} {tn : Nat} {tt rt : Tok} {row : List Nat} {kvs : List (Str × Value)} {fvs : Array Value} {n : Nat} {done : List (List Nat)} {Z : Flow → Shared → Prop} (G : Gd w mg mb base) (R : Room A 1)
    (F : FF base (foE L) s.heap [(Str.ofString "rows", .ref a), (Str.ofString "turn", .int (tn : Int) tt), (Str.ofString "folds", .ref D), (Str.ofString "folded", .ref P), (Str.ofString "row", .str (txt row) rt)])
    (hr9 : row.length = 9) (hrs : ∀ c ∈ row, c ∈ sgns) (hD : s.heap.DictOf (PySem.strKind PW w) D kvs) (hn : kvs.length ≤ n) (hn' : n ≤ 800) (hg : GoodKv kvs) (hDo : D ∉ own (foE L)) (hPo : P ∉ own (foE L)) (hPD : P ≠ D) (hDb : base.get? D = none) (hPb : base.get? P = none) (hDs : (D == sysModules) = false)
    (hI : s.heap.get? I ≠ none) (hIo : I ∉ D :: own (foE L)) (hP : s.heap.PlainList P fvs) (hfs : fvs.size ≤ 900) (hT : Paired (TR (I :: P :: D :: own (foE L)) s.heap) fvs.toList done)
    (h : ∀ h' tk kvs' fvs', FF base (foE L) h' [(Str.ofString "rows", .ref a), (Str.ofString "turn", .int (tn : Int) tt), (Str.ofString "folds", .ref D), (Str.ofString "folded", .ref P)] → h'.DictOf (PySem.strKind PW w) D kvs' → kvs'.length ≤ n + 9 → GoodKv kvs' → h'.PlainList P fvs' → fvs'.size = fvs.size + 1 → Paired (TR (I :: P :: D :: own (foE L)) h') fvs'.toList (done ++ [row.map fold]) → But (P :: D :: own (foE L)) s.heap h' → Z .next { s with heap := h', toks := tk }) :
    wpAny (MD w) A (execs foLoop (foE L)) Z E s := by
  refine wpAny_execs_cons ?_
  refine lassign (base := base) (vs := _) (fun _ => true) (fun _ j y _ => ∃ t, y = .str (ch (laid (row.getD j 0) (((tn + j) % 12 : Nat) : Int))) t) [(Str.ofString "row", .str (txt row) rt), (Str.ofString "turn", .int (tn : Int) tt)] F (cl := [(Str.ofString "turn", L + 1), (Str.ofString "row", L + 3)]) rfl rfl ?_ ?_ rfl ?_ rfl rfl (.inl rfl) (fun _ _ _ _ _ q _ => q) ?_
  · intro q hq
    have e : (foE L).cells = [(Str.ofString "row", L + 3), (Str.ofString "folds", L + 2), (Str.ofString "turn", L + 1)] := rfl
    rw [e]
    simp only [List.mem_cons, List.not_mem_nil, or_false] at hq ⊢
    rcases hq with rfl | rfl
    · exact .inr (.inr rfl)
    · exact .inl rfl
  · decide +kernel
  · decide +kernel
  refine Call_ ?_
  refine gB F G (by kernel_rfl) (by boot_by_name) (by decide) ?_
  refine PyProof.Rows.callWith_type1 ?_
  refine args_cons (wpAny_Constant_int (args_nil (rng1 (n := 9) (by decide) R.h fun I₂ St₂ h₂ tk₂ g₂ hI₂ hlt₂ W₂ st₂ al₂ => ?_)))
  refine ⟨I₂, _, _, _, St₂, h₂, tk₂, rfl, rfl, W₂, by decide, st₂, ?_, hI₂, al₂, g₂, ?_, ?_, ?_⟩
  · intro b hb; rw [List.mem_singleton.mp hb]; exact hlt₂
  · intro C j v h tk E' hj hv FC gC
    exact wpAny_tests_nil ⟨rfl, Keeps.rfl'⟩
  · intro X C j v h tk E' hj hv hp FC gC hX
    obtain ⟨tv, rfl⟩ := hv
    have em : ((tn : Int) + (j : Int)).fmod 12 = (((tn + j) % 12 : Nat) : Int) := by rw [Int.fmod_eq_emod_of_nonneg _ (by decide)]; omega
    refine Call_ ?_
    refine gK (v := .ref 114) FC G (by kernel_rfl) ?_
    refine callWith_def (o := ob114) rfl ?_
    refine args_cons ?_
    refine Subscript_ ?_
    refine lv FC rfl (lv FC rfl ?_)
    refine str_item (by omega) (by omega) (fun t₃ tk₃ => ?_) (by rfl)
    refine args_cons ?_
    refine wpAny_BinOp (wpAny_BinOp (lv FC rfl (lv FC rfl (add_int (wpAny_Constant_int (mod_int (by decide) ?_))))))
    refine args_nil ⟨FC.keep _ _ (G.X 114 _ rfl), ?_⟩
    refine c_laid (c := row.getD j 0) (f := ((tn : Int) + (j : Int)).fmod 12) (G.keeps FC.keep) R (by rw [em]; omega) (by rw [em]; omega) fun t' h' tk' g' => ?_
    exact ⟨⟨t', by rw [em]; rfl⟩, ⟨h', tk', rfl, g'⟩⟩
  · intro X S h₃ h₄ tk₄ ys hX hS hPl hPd g₃ b₃ hPl₄ F₄' b₄
    rw [filter_all] at hPd
    have hys : StrsAre ys.toList ((lays row tn).map ch) := strs_of hPd
    obtain ⟨yl⟩ := ys
    have F₄ : FF base (foE L) h₄ (foVs a D P S tn tt rt row) := F₄'.sub _ rfl
    have hSo : S ∉ own (foE L) := F.notOwn (hX S hS)
    have hSn := hX S hS
    have hSD : S ≠ D := fun e => by obtain ⟨o, es, ep, ho, _⟩ := hD; rw [← e, hSn] at ho; cases ho
    have hSP : S ≠ P := fun e => by obtain ⟨o, ho⟩ := hP; rw [← e, hSn] at ho; cases ho
    have hSI : S ≠ I := fun e => hI (e ▸ hSn)
    have d₄ : h₄.DictOf (PySem.strKind PW w) D kvs := DictOf.but hD fun o e => b₄ _ o hDo e
    have hlow : ∀ c ∈ lays row tn, (Txt.lower ⟨#[c]⟩).length ≤ 100 := by
      intro c hc
      obtain ⟨j, hj, rfl⟩ := List.mem_map.mp hc
      have hj9 : j < 9 := List.mem_range.mp hj
      exact low_at (hrs _ (getD_mem (by omega))) (Nat.mod_lt _ (by decide))
    have hl9 : (lays row tn).length = 9 := by simp [lays]
    refine wpAny_execs_cons ?_
    refine fo_inner (base := base) (cs := lays row tn) (ls := yl) (kvs := kvs) (n := n) G R F₄ hPl₄.isList hys (by rw [hl9]; decide) d₄ hn (by omega) hg hDo hDb hSo hSD hlow hDs ?_
    intro h₅ tk₅ kvs' F₅ d₅ hn₅ hg₅ hc₅ b₅
    refine st_eq { s with heap := h₅, toks := tk₅ } rfl ?_
    have hSm : S ∉ D :: own (foE L) := by simp [hSD, hSo]
    have hS₅ : h₅.IsList S yl.toArray := hPl₄.isList.at fun o e => b₅ _ o hSm e
    have hPm : P ∉ D :: own (foE L) := by simp [hPD, hPo]
    have hP₅ : h₅.PlainList P fvs := (hP.at fun o e => b₄ _ o hPo e).at fun o e => b₅ _ o hPm e
    obtain ⟨pn, hpn⟩ := id hP₅
    refine wpAny_execs_cons ?_
    refine wpAny_Expr ?_
    refine MethodCall_ ?_
    refine lv F₅ rfl ?_
    refine getMethod_list_append hpn rfl rfl ?_
    refine callWith_method1 ?_
    refine args_cons ?_
    refine lcomp (base := base) (vs := _) (fun _ => true) (fun _ j y _ => ∃ t, y = .str (ch (fold (row.getD j 0))) t) [(Str.ofString "folds", .ref D)] F₅ (cl := [(Str.ofString "folds", L + 2)]) rfl ?_ ?_ rfl ?_ rfl rfl (fun _ _ _ _ _ q _ => q) ?_
    · intro q hq
      have e : (foE L).cells = [(Str.ofString "row", L + 3), (Str.ofString "folds", L + 2), (Str.ofString "turn", L + 1)] := rfl
      rw [e, List.mem_singleton.mp hq]; exact .tail _ (.head _)
    · decide +kernel
    · decide +kernel
    have hyl : yl.length = 9 := by have := hys.length; simpa [hl9] using this
    refine lv F₅ rfl (itl hS₅ R.h fun I₆ St₆ h₆ tk₆ g₆ hI₆ hlt₆ W₆ st₆ al₆ => ?_)
    refine ⟨I₆, _, _, _, St₆, h₆, tk₆, rfl, rfl, W₆, by simp [hyl], st₆, ?_, hI₆, al₆, g₆, ?_, ?_, ?_⟩
    · intro b hb
      rcases List.mem_cons.mp hb with rfl | hb
      · exact hlt₆
      · rw [List.mem_singleton.mp hb]; obtain ⟨o, ho, _⟩ := hS₅; exact Heap.lt_size (g₆ _ o ho)
    · intro C j v h tk E' hj hv FC gC
      exact wpAny_tests_nil ⟨rfl, Keeps.rfl'⟩
    · intro X C j v h tk E' hj hv hp FC gC hX
      have hj9 : j < 9 := by simpa [hyl] using hj
      obtain ⟨ts, rfl⟩ := strs_get hys (by simpa using hv)
      have eg : ((lays row tn).map ch).getD j ⟨#[]⟩ = ch ((lays row tn).getD j 0) := by
        rw [List.getD_eq_getElem?_getD, List.getElem?_map, List.getD_eq_getElem?_getD, List.getElem?_eq_getElem (by omega)]; rfl
      rw [eg] at FC
      have hcj := hc₅ j (by omega)
      obtain ⟨v, hv'⟩ := Option.isSome_iff_exists.mp hcj
      obtain ⟨t', rfl⟩ := good_at hg₅ hv'
      have el : (lays row tn).getD j 0 = laid (row.getD j 0) (((tn + j) % 12 : Nat) : Int) := by simp [lays, List.getD_eq_getElem?_getD, hj9]
      have ef : b3 ((lays row tn).getD j 0) = ch (fold (row.getD j 0)) := by rw [el]; exact fold_at (hrs _ (getD_mem (by omega))) (Nat.mod_lt _ (by decide))
      have hm := (DictOf.but d₅ (h' := h) fun o e => gC _ o e).mapOf
      refine Subscript_ ?_
      refine lv FC rfl (lv FC rfl ?_)
      refine dict_item hm hv' (fun tk => ⟨⟨t', by rw [ef]⟩, Keeps.toks⟩) (by rfl)
    · intro X₇ T h₇ tk₇ ys₇ hX₇ hT₇ hPl₇ hPd₇ g₇
      have e9 : yl.toArray.size = 9 := by simp [hyl]
      rw [e9, filter_all] at hPd₇
      have hys₇ : StrsAre ys₇.toList ((row.map fold).map ch) := by rw [← map_getD_row hr9 fold]; exact strs_of hPd₇
      have hTn := hX₇ T hT₇
      have hP₇ : h₇.PlainList P fvs := hP₅.at fun o e => g₇ _ o e
      refine args_nil ?_
      refine wpAny_list_append_plain (hsz := by rw [sizeLine_eq]; omega) hP₇ fun h₈ pl₈ sb => ?_
      refine wpAny_execs_nil ?_
      have F₇ := F₅.grown g₇
      have b₈ : But [P] h₇ h₈ := But.of_same sb (by simp)
      have F₈ := F₇.frame b₈ (fun a ha => by rw [List.mem_singleton.mp ha]; exact hPo) (fun a ha => by rw [List.mem_singleton.mp ha]; exact hPb)
      have hTo : T ∉ own (foE L) := F₅.notOwn hTn
      have hTD : T ≠ D := fun e => by obtain ⟨o, es, ep, ho, _⟩ := d₅; rw [← e, hTn] at ho; cases ho
      have hTP : T ≠ P := fun e => by rw [← e, hTn] at hpn; cases hpn
      have B : But (P :: D :: own (foE L)) s.heap h₈ := ((b₄.mono fun _ q => List.mem_cons_of_mem _ (List.mem_cons_of_mem _ q)).trans (b₅.mono fun _ q => List.mem_cons_of_mem _ q)).trans ((But.of_grown g₇).trans (b₈.mono fun a q => by rw [List.mem_singleton.mp q]; simp))
      have hTI : T ≠ I := by
        intro e
        obtain ⟨o, ho⟩ := Option.ne_none_iff_exists'.mp hI
        have ho' := b₅ _ o hIo (b₄ _ o (fun q => hIo (List.mem_cons_of_mem _ q)) ho)
        rw [← e, hTn] at ho'; cases ho'
      refine h h₈ _ kvs' _ (F₈.sub _ rfl) (DictOf.but d₅ fun o e => b₈ _ o (by simpa using Ne.symm hPD) (g₇ _ o e)) (by omega) hg₅ pl₈ (by simp) ?_ B
      rw [Array.toList_push]
      refine Paired.snoc (Paired.imp (fun v cs q => q.but (B.mono fun _ q => List.mem_cons_of_mem _ q)) hT) ⟨T, ys₇.toList, rfl, by simp [hTI, hTP, hTD, hTo], ?_, hys₇⟩
      exact (hPl₇.isList.at fun o e => b₈ _ o (by simpa using hTP) e)
end
end Mine

-- part F19
set_option Elab.async false
set_option maxRecDepth 100000
namespace Mine
section
variable {w : World} {A : Around} {s : Shared} {env : Env}
theorem for_ffS {R : Result → Shared → Prop} {target : PySem.Expr} {body orelse : List Stmt} {I : Addr} {fp wr : List Addr} {n : Nat} {P : Nat → Value → Prop} {St : Nat → Heap → Prop} (mu : List Addr)
    (Inv : Nat → Heap → Prop) (W : Walks PW w A I fp wr n P St) (hmf : ∀ a ∈ mu, a ∉ fp)
    (hI : ∀ i h h', Inv i h → But wr h h' → Inv i h') (hst : St 0 s.heap) (h0 : Inv 0 s.heap)
    (turn : ∀ i v h tk, i < n → P i v → St (i + 1) h → Inv i h → But (mu ++ wr) s.heap h →
      wpAny (MD w) A (assign target env v) (fun _ s' => wpAny (MD w) A (execs body env) (Trn mu (Inv (i + 1)) R { s with heap := h, toks := tk }) (fun _ _ => False) s') (fun _ _ => False) { s with heap := h, toks := tk })
    (done : ∀ h tk, Inv n h → But (mu ++ wr) s.heap h → wpAny (MD w) A (execs orelse env) (fun f s' => R (.ok f) s') (fun _ _ => False) { s with heap := h, toks := tk })
    (ht : ∀ v, letOwnedTupleGo target (.ref I) v = pure () := by intro _; rfl) :
    codeAny (MD w) A (.forLoop target (.ref I) body orelse env) R s := by
  refine codeAny_forLoop (fun k s' => ∃ i h tk, s' = { s with heap := h, toks := tk } ∧ i ≤ n ∧ k = n + 1 - i ∧ St i h ∧ Inv i h ∧ But (mu ++ wr) s.heap h) ?_ (n + 1)
    ⟨0, s.heap, s.toks, rfl, Nat.zero_le _, rfl, hst, h0, .refl _ _⟩ ht
  rintro k s' ⟨i, h, tk, rfl, hi, rfl, hst, hj, hb⟩
  have go : ∀ h₁, (∀ b o, b ∉ wr → h.get? b = some o → h₁.get? b = some o) → Inv i h₁ ∧ But (mu ++ wr) s.heap h₁ := fun h₁ k₁ =>
    ⟨hI _ _ _ hj k₁, hb.trans fun b o nb e => k₁ b o (fun q => nb (List.mem_append_right _ q)) e⟩
  by_cases hlt : i < n
  · refine W.item i _ _ _ hlt hst fun v h₁ tk₁ hP hst₁ k₁ => ?_
    obtain ⟨j₁, b₁⟩ := go h₁ k₁
    refine wpAny_mono (turn i v h₁ tk₁ hlt hP hst₁ j₁ b₁) (fun _ s₂ h₂ => wpAny_mono h₂ (fun f s₃ h₃ => ?_) fun _ _ x => x.elim) fun _ _ x => x.elim
    have nx : (∃ h tk, s₃ = { ({ s with heap := h₁, toks := tk₁ } : Shared) with heap := h, toks := tk } ∧ Inv (i + 1) h ∧ But mu h₁ h) →
        ∃ m_1, m_1 < n + 1 - i ∧ ∃ i_1 h tk, s₃ = { s with heap := h, toks := tk } ∧ i_1 ≤ n ∧ m_1 = n + 1 - i_1 ∧ St i_1 h ∧ Inv i_1 h ∧ But (mu ++ wr) s.heap h := by
      rintro ⟨h', tk', rfl, j', b'⟩
      exact ⟨n + 1 - (i + 1), by omega, i + 1, h', tk', rfl, hlt, rfl, W.frame _ _ _ hst₁ fun b hbf o e => b' b o (fun q => hmf b q hbf) e, j', b₁.trans (b'.mono fun a ha => List.mem_append_left _ ha)⟩
    cases f with
    | next => exact nx h₃
    | cont => exact nx h₃
    | brk => exact h₃
    | ret v => exact h₃
  · have hin : i = n := by omega
    subst hin
    refine W.done _ _ _ hst fun h₁ tk₁ k₁ => ?_
    obtain ⟨j₁, b₁⟩ := go h₁ k₁
    exact wpAny_mono (done h₁ tk₁ j₁ b₁) (fun _ _ x => x) fun _ _ x => x.elim
end
section
variable {w : World} {mg mb : Str → Option Value} {A : Around} {E : Value → Shared → Prop} {s : Shared} {base : Heap} {env : Env} {vs : List (Str × Value)}
set_option maxHeartbeats 1000000 in
theorem c_folded {a : Addr} {ls : List Value} {rws : List (List Nat)} {tn : Nat} {tt : Tok} {Q : Value → Shared → Prop} (G : Gd w mg mb s.heap) (R : Room A 2) (hl : s.heap.IsList a ls.toArray) (hi : StrsAre ls (rws.map txt)) (hlen : rws.length ≤ 80)
    (hr9 : ∀ row ∈ rws, row.length = 9 ∧ ∀ c ∈ row, c ∈ sgns)
    (h : ∀ P fvs h' tk, s.heap.get? P = none → h'.PlainList P fvs → Paired (TR [P] h') fvs.toList (rws.map (·.map fold)) → Grown s.heap h' → Q (.ref P) { s with heap := h', toks := tk }) :
    wpAny (MD w) A (call (.ref 119) [.ref a, .int (tn : Int) tt]) Q E s := by
  refine call_fc (f := 119) (c := 118) (name := fName (stm 28)) (params := fParams (stm 28)) (body := fBody (stm 28)) (scope := fScope (stm 28)) [(Str.ofString "rows", .ref a), (Str.ofString "turn", .int (tn : Int) tt)] G (by have := R.d; omega) rfl rfl (by kernel_rfl) rfl ?_ (by show List.Nodup [Str.ofString "rows", Str.ofString "turn"]; decide +kernel) (by decide +kernel) (fun L h₁ tk₁ F => ?_) rfl rfl rfl
  · intro x hx
    simp only [List.mem_cons, List.not_mem_nil, or_false] at hx
    rcases hx with rfl | rfl
    · exact .inl rfl
    · exact .inr ⟨rfl, rfl⟩
  have R' : Room (A.deeper (foE L)) 1 := R.deeper
  generalize A.deeper (foE L) = A' at R' ⊢
  refine wpAny_execs_cons ?_
  refine wpAny_Assign_Name ?_
  refine wpAny_Dict_empty ?_
  have big := big_of G F.keep
  have gD : Grown h₁ (h₁.push { cls := .type "dict", data := .dict #[] }) := fun _ _ e => Heap.get?_push_of_some _ e
  have dD : (h₁.push { cls := .type "dict", data := .dict #[] }).DictOf (PySem.strKind PW w) h₁.objs.size [] := Heap.DictOf.new h₁
  have nD : h₁.get? h₁.objs.size = none := get_none_of_le (Nat.le_refl _)
  have hDs : (h₁.objs.size == sysModules) = false := beq_eq_false_iff_ne.mpr (Nat.ne_of_gt big)
  refine st_eq { s with heap := h₁.push { cls := .type "dict", data := .dict #[] }, toks := tk₁ } rfl ?_
  show wpAny (MD w) A' (storeName (foE L) _ (.ref h₁.objs.size)) _ _ _
  generalize h₁.push { cls := .type "dict", data := .dict #[] } = h₂ at gD dD ⊢
  generalize h₁.objs.size = D at dD nD hDs ⊢
  have hDo : D ∉ own (foE L) := F.notOwn nD
  have hDb : s.heap.get? D = none := F.fresh nD
  refine sv (F.grown gD) fun h₃ tk₃ F₃ b₃ => ?_
  refine st_eq { s with heap := h₃, toks := tk₃ } rfl ?_
  have d₃ := DictOf.but (w := w) dD fun o e => b₃ _ o hDo e
  refine wpAny_execs_cons (wpAny_Assign_Name (List_ (args_nil (newListB (by simp) fun h₄ P g₄ l₄ n₄ => sv (F₃.grown g₄) fun h₅ tk₅ F₅ b₅ => ?_))))
  refine st_eq { s with heap := h₅, toks := tk₅ } rfl ?_
  have hPo : P ∉ own (foE L) := F₃.notOwn n₄
  have hPb : s.heap.get? P = none := F₃.fresh n₄
  have hPD : P ≠ D := fun e => by obtain ⟨o, es, ep, ho, _⟩ := d₃; exact absurd ((e ▸ n₄).symm.trans ho) (by simp)
  have l₅ : h₅.PlainList P #[] := l₄.at fun o e => b₅ _ o hPo e
  have d₅ := DictOf.but (w := w) (h' := h₅) d₃ fun o e => b₅ _ o hDo (g₄ _ o e)
  have hl₅ := hl.at fun o e => F₅.keep _ o e
  refine wpAny_execs_cons ?_
  refine wpAny_For ?_
  refine lv F₅ rfl (itl hl₅ R'.h fun I St h₆ tk₆ g₆ hI hlt W st₀ al => ?_)
  have F₆ := F₅.grown g₆
  have hls : ls.length = rws.length := by rw [hi.length, List.length_map]
  have hDI : D ≠ I := fun e => by obtain ⟨o, es, ep, ho, _⟩ := d₅; exact absurd ((e ▸ hI : h₅.get? D = none).symm.trans ho) (by simp)
  have hPI : P ≠ I := fun e => by obtain ⟨n, ho⟩ := l₅; exact absurd ((e ▸ hI : h₅.get? P = none).symm.trans ho) (by simp)
  have hIo : I ∉ own (foE L) := F₅.notOwn hI
  have haP : a ≠ P := fun e => by obtain ⟨o, ho, _⟩ := hl; rw [e, hPb] at ho; cases ho
  have haD : a ≠ D := fun e => by obtain ⟨o, ho, _⟩ := hl; rw [e, hDb] at ho; cases ho
  have hao : a ∉ own (foE L) := fun q => by obtain ⟨o, ho, _⟩ := hl; rw [F.new a q] at ho; cases ho
  refine for_ffS (P :: D :: own (foE L)) (fun i h => ∃ kvs fvs, FF s.heap (foE L) h [(Str.ofString "rows", .ref a), (Str.ofString "turn", .int (tn : Int) tt), (Str.ofString "folds", .ref D), (Str.ofString "folded", .ref P)] ∧ h.DictOf (PySem.strKind PW w) D kvs ∧ kvs.length ≤ 9 * i ∧ GoodKv kvs ∧ h.PlainList P fvs ∧ fvs.size = i ∧ Paired (TR (I :: P :: D :: own (foE L)) h) fvs.toList ((rws.take i).map (·.map fold)) ) W ?_ ?_ st₀ ⟨[], #[], F₆.sub _ rfl, DictOf.but d₅ fun o e => g₆ _ o e, by simp, by intro kv hkv; (cases hkv), l₅.at fun o e => g₆ _ o e, rfl, by simpa using Paired.nil⟩ ?_ ?_
  · intro x hx q
    simp only [List.mem_cons, List.not_mem_nil, or_false] at q hx
    rcases q with rfl | rfl
    · rcases hx with e | e | hx
      · exact hPI e.symm
      · exact hDI e.symm
      · exact hIo hx
    · rcases hx with e | e | hx
      · exact haP e
      · exact haD e
      · exact hao hx
  · rintro i h h' ⟨kvs, fvs, f, d, h1, h2, pl, h3, h4⟩ bb
    have bb' : But (I :: P :: D :: own (foE L)) h h' := bb.mono fun a q => by rw [List.mem_singleton.mp q]; simp
    exact ⟨kvs, fvs, f.frame bb (fun a ha => by rw [List.mem_singleton.mp ha]; exact hIo) (fun a ha => by rw [List.mem_singleton.mp ha]; exact F₅.fresh hI), DictOf.but d fun o e => bb _ o (by simpa using hDI) e, h1, h2, pl.at fun o e => bb _ o (by simpa using hPI) e, h3, Paired.imp (fun _ _ q => q.but bb') h4⟩
  · rintro i v h₇ tk hi9 hv hSt ⟨kvs, fvs, f, d, h1, h2, pl, h3, h4⟩ bb
    have hi9' : i < rws.length := by simpa [hls] using hi9
    have h5 := al _ _ hSt
    obtain ⟨ts, rfl⟩ := strs_get hi (by simpa using hv)
    have eg : (rws.map txt).getD i ⟨#[]⟩ = txt rws[i] := by
      rw [List.getD_eq_getElem?_getD, List.getElem?_map, List.getElem?_eq_getElem (by omega)]; rfl
    rw [eg]
    obtain ⟨r9, rs⟩ := hr9 rws[i] (List.getElem_mem _)
    refine wpAny_assign_Name (sv f fun h₈ tk₈ F₈ b₈ => ?_)
    refine st_eq { s with heap := h₈, toks := tk₈ } rfl ?_
    have B₈ : But (I :: P :: D :: own (foE L)) h₇ h₈ := b₈.mono fun _ q => by simp [q]
    refine fo_turn (base := s.heap) (row := rws[i]) (kvs := kvs) (fvs := fvs) (I := I) (n := 9 * i) G R' (F₈.sub _ rfl) r9 rs (DictOf.but d fun o e => b₈ _ o hDo e) h1 (by omega) h2 hDo hPo hPD hDb hPb hDs ?_ (by simp [Ne.symm hDI, hIo]) (pl.at fun o e => b₈ _ o hPo e) (by omega) (Paired.imp (fun _ _ q => q.but B₈) h4) ?_
    · obtain ⟨o, ho⟩ := Option.ne_none_iff_exists'.mp h5
      rw [b₈ _ o hIo ho]; simp
    · intro h₉ tk₉ kvs' fvs' F₉ d₉ n₉ g₉ pl₉ sz₉ p₉ b₉
      refine ⟨h₉, tk₉, rfl, ⟨kvs', fvs', F₉, d₉, by omega, g₉, pl₉, by omega, ?_⟩, (b₈.mono fun _ q => by simp [q]).trans b₉⟩
      have e : rws.take (i + 1) = rws.take i ++ [rws[i]] := by rw [List.take_succ_eq_append_getElem hi9']
      rw [e, List.map_append]; exact p₉
  · rintro h₇ tk₇ ⟨kvs, fvs, f, d, h1, h2, pl, h3, h4⟩ bb
    refine wpAny_execs_nil (wpAny_execs_cons (wpAny_Return_some (lv f rfl ?_)))
    have e : ls.toArray.size = rws.length := by simp [hls]
    rw [e, List.take_length] at h4
    exact h P fvs h₇ _ hPb pl (Paired.imp (fun v cs q => let ⟨p, l, e1, e2, e3, e4⟩ := q; ⟨p, l, e1, by simp at e2; simp [e2], e3, e4⟩) h4) f.keep
end
end Mine

-- part P1
set_option Elab.async false
set_option maxRecDepth 100000
namespace Mine
theorem bt_nat (n j : Nat) : bt (n : Int) j = if n.testBit j then 1 else 0 := by
  unfold bt
  have e : ((2 : Int) ^ j) = ((2 ^ j : Nat) : Int) := by simp
  rw [e, Int.fdiv_eq_ediv_of_nonneg _ (Int.natCast_nonneg _), Int.fmod_eq_emod_of_nonneg _ (by decide), Nat.testBit_eq_decide_div_mod_eq]
  have e2 : ((n : Int) / ((2 ^ j : Nat) : Int)) % 2 = ((n / 2 ^ j % 2 : Nat) : Int) := by norm_cast
  rw [e2]
  have : n / 2 ^ j % 2 < 2 := Nat.mod_lt _ (by decide)
  by_cases h : n / 2 ^ j % 2 = 1
  · simp [h]
  · have : n / 2 ^ j % 2 = 0 := by omega
    simp [this]
theorem bt1 (n j : Nat) : (bt (n : Int) j == 1) = n.testBit j := by rw [bt_nat]; cases n.testBit j <;> rfl
theorem bt0 (n j : Nat) : (bt (n : Int) j == 0) = !n.testBit j := by rw [bt_nat]; cases n.testBit j <;> rfl
theorem and_mask (n q : Nat) (hq : q < 2 ^ 12) : (n &&& q == q) = (List.range 12).all fun i => !q.testBit i || n.testBit i := by
  rw [Bool.eq_iff_iff, beq_iff_eq, List.all_eq_true]
  constructor
  · intro h i _
    have := congrArg (fun x => Nat.testBit x i) h
    simp only [Nat.testBit_and] at this
    revert this
    cases n.testBit i <;> cases q.testBit i <;> simp
  · intro h
    apply Nat.eq_of_testBit_eq
    intro i
    rw [Nat.testBit_and]
    by_cases hi : i < 12
    · have := h i (List.mem_range.mpr hi)
      revert this
      cases n.testBit i <;> cases q.testBit i <;> simp
    · have : q.testBit i = false := Nat.testBit_lt_two_pow (Nat.lt_of_lt_of_le hq (Nat.pow_le_pow_right (by decide) (by omega)))
      rw [this, Bool.and_false]
theorem bitAnd_nat (n q : Nat) : Builtin.bitAnd (n : Int) (q : Int) = ((n &&& q : Nat) : Int) := by
  unfold Builtin.bitAnd
  rfl
theorem hit_nat (n q : Nat) {idx : Int} (hi : (idx == 0) = false) : hit (n : Int) idx (q : Int) = (n &&& q == q) := by
  unfold hit
  rw [hi, if_neg Bool.false_ne_true, bitAnd_nat]
  rw [Bool.eq_iff_iff, beq_iff_eq, beq_iff_eq]; omega
def sgnB (k : Nat) (b a : Bool) : Nat :=
  if k % 3 = 0 then (if b then 114 else 45) else if k % 3 = 1 then (if b then 119 else 45)
  else if a then (if b then (if k = 8 then 116 else 115) else (if k = 8 then 84 else 83)) else if b then 120 else 45
def row (m : Nat) : List Nat := (List.range 9).map fun k => sgnB k (m.testBit (8 - k)) (m.testBit (9 + (8 - k) / 3))
theorem pick1 (n q : Nat) (hq : q < 2 ^ 12) {idx : Int} (hi : (idx == 0) = false) (c : Str) : pick (n : Int) idx [((q : Int), c)] = if (List.range 12).all (fun i => !q.testBit i || n.testBit i) then c else Str.ofString "-" := by
  unfold pick pick
  rw [hit_nat n q hi, and_mask n q hq, hi]; rfl
theorem pick3 (n q q2 q3 : Nat) (hq : q < 2 ^ 12) (hq2 : q2 < 2 ^ 12) (hq3 : q3 < 2 ^ 12) {idx : Int} (hi : (idx == 0) = false) (c c2 c3 : Str) : pick (n : Int) idx [((q : Int), c), ((q2 : Int), c2), ((q3 : Int), c3)] =
    if (List.range 12).all (fun i => !q.testBit i || n.testBit i) then c else if (List.range 12).all (fun i => !q2.testBit i || n.testBit i) then c2 else if (List.range 12).all (fun i => !q3.testBit i || n.testBit i) then c3 else Str.ofString "-" := by
  unfold pick pick pick pick
  rw [hit_nat n q hi, and_mask n q hq, hit_nat n q2 hi, and_mask n q2 hq2, hit_nat n q3 hi, and_mask n q3 hq3, hi]; rfl
theorem m1 (n : Nat) {j : Nat} (hj : j < 12) : ((List.range 12).all fun i => !(2 ^ j).testBit i || n.testBit i) = n.testBit j := by
  rw [Bool.eq_iff_iff, List.all_eq_true]
  constructor
  · intro h
    have := h j (List.mem_range.mpr hj)
    simpa using this
  · intro h i _
    by_cases e : j = i
    · subst e; simp [h]
    · simp [Nat.testBit_two_pow, e]
end Mine

-- part P2
set_option Elab.async false
set_option maxRecDepth 100000
namespace Mine
theorem m2 (n : Nat) (f : List Nat) (q : Nat) (hf : ∀ i < 12, q.testBit i = f.contains i) (hl : ∀ i ∈ f, i < 12) : ((List.range 12).all fun i => !q.testBit i || n.testBit i) = f.all fun i => n.testBit i := by
  rw [Bool.eq_iff_iff, List.all_eq_true, List.all_eq_true]
  constructor
  · intro h i hi
    have := h i (List.mem_range.mpr (hl i hi))
    rw [hf i (hl i hi)] at this
    simpa [hi] using this
  · intro h i hi
    rw [hf i (List.mem_range.mp hi)]
    by_cases e : i ∈ f
    · simp [h i e]
    · simp [e]
theorem texts_tail (m : Nat) : (fmTexts (m : Int)).drop 1 = (row m).map ch := by
  have e : (fmTexts (m : Int)).drop 1 = [pick m 1 [((256 : Nat), Str.ofString "r")], pick m 2 [((128 : Nat), Str.ofString "w")], pick m 3 [((2112 : Nat), Str.ofString "s"), ((2048 : Nat), Str.ofString "S"), ((64 : Nat), Str.ofString "x")],
    pick m 4 [((32 : Nat), Str.ofString "r")], pick m 5 [((16 : Nat), Str.ofString "w")], pick m 6 [((1032 : Nat), Str.ofString "s"), ((1024 : Nat), Str.ofString "S"), ((8 : Nat), Str.ofString "x")],
    pick m 7 [((4 : Nat), Str.ofString "r")], pick m 8 [((2 : Nat), Str.ofString "w")], pick m 9 [((513 : Nat), Str.ofString "t"), ((512 : Nat), Str.ofString "T"), ((1 : Nat), Str.ofString "x")]] := rfl
  rw [e]
  have er : (row m).map ch = [ch (sgnB 0 (m.testBit 8) (m.testBit 11)), ch (sgnB 1 (m.testBit 7) (m.testBit 11)), ch (sgnB 2 (m.testBit 6) (m.testBit 11)), ch (sgnB 3 (m.testBit 5) (m.testBit 10)), ch (sgnB 4 (m.testBit 4) (m.testBit 10)), ch (sgnB 5 (m.testBit 3) (m.testBit 10)), ch (sgnB 6 (m.testBit 2) (m.testBit 9)), ch (sgnB 7 (m.testBit 1) (m.testBit 9)), ch (sgnB 8 (m.testBit 0) (m.testBit 9))] := rfl
  rw [er]
  have h1 : ∀ {q : Nat} {j : Nat}, (∀ i < 12, q.testBit i = [j].contains i) → (∀ i ∈ [j], i < 12) → ((List.range 12).all fun i => !q.testBit i || m.testBit i) = (m.testBit j && true) := fun a b => m2 m _ _ a b
  have h2 : ∀ {q : Nat} {j k : Nat}, (∀ i < 12, q.testBit i = [j, k].contains i) → (∀ i ∈ [j, k], i < 12) → ((List.range 12).all fun i => !q.testBit i || m.testBit i) = (m.testBit j && (m.testBit k && true)) := fun a b => m2 m _ _ a b
  rw [pick1 m 256 (by decide) (by decide), pick1 m 128 (by decide) (by decide), pick1 m 32 (by decide) (by decide), pick1 m 16 (by decide) (by decide), pick1 m 4 (by decide) (by decide), pick1 m 2 (by decide) (by decide),
    pick3 m 2112 2048 64 (by decide) (by decide) (by decide) (by decide), pick3 m 1032 1024 8 (by decide) (by decide) (by decide) (by decide), pick3 m 513 512 1 (by decide) (by decide) (by decide) (by decide)]
  rw [h1 (q := 256) (j := 8) (by decide) (by decide), h1 (q := 128) (j := 7) (by decide) (by decide), h1 (q := 32) (j := 5) (by decide) (by decide), h1 (q := 16) (j := 4) (by decide) (by decide), h1 (q := 4) (j := 2) (by decide) (by decide), h1 (q := 2) (j := 1) (by decide) (by decide),
    h2 (q := 2112) (j := 6) (k := 11) (by decide) (by decide), h1 (q := 2048) (j := 11) (by decide) (by decide), h1 (q := 64) (j := 6) (by decide) (by decide),
    h2 (q := 1032) (j := 3) (k := 10) (by decide) (by decide), h1 (q := 1024) (j := 10) (by decide) (by decide), h1 (q := 8) (j := 3) (by decide) (by decide),
    h2 (q := 513) (j := 0) (k := 9) (by decide) (by decide), h1 (q := 512) (j := 9) (by decide) (by decide), h1 (q := 1) (j := 0) (by decide) (by decide)]
  have p1 : ∀ b a, (if (b && true) = true then Str.ofString "r" else Str.ofString "-") = ch (sgnB 0 b a) := by intro b a; cases b <;> cases a <;> rfl
  have p2 : ∀ b a, (if (b && true) = true then Str.ofString "w" else Str.ofString "-") = ch (sgnB 1 b a) := by intro b a; cases b <;> cases a <;> rfl
  have p3 : ∀ b a, (if (b && (a && true)) = true then Str.ofString "s" else if (a && true) = true then Str.ofString "S" else if (b && true) = true then Str.ofString "x" else Str.ofString "-") = ch (sgnB 2 b a) := by intro b a; cases b <;> cases a <;> rfl
  have p8 : ∀ b a, (if (b && (a && true)) = true then Str.ofString "t" else if (a && true) = true then Str.ofString "T" else if (b && true) = true then Str.ofString "x" else Str.ofString "-") = ch (sgnB 8 b a) := by intro b a; cases b <;> cases a <;> rfl
  rw [p1 _ (m.testBit 11), p2 _ (m.testBit 11), p3, p1 _ (m.testBit 10), p2 _ (m.testBit 10), p3, p1 _ (m.testBit 9), p2 _ (m.testBit 9), p8]
  rfl
end Mine

-- part P3
set_option Elab.async false
set_option maxRecDepth 100000
namespace Mine
theorem join_ch : ∀ l : List Nat, Txt.join (Str.ofString "") (l.map ch) = txt l := by
  intro l
  show Builtin.Str.glued (Str.ofString "") (l.map ch) = _
  rw [StrLaws.glued_eq_join]
  induction l with
  | nil => rfl
  | cons a r ih =>
    cases r with
    | nil => rfl
    | cons b r =>
      have e : Str.join (Str.ofString "") ((a :: b :: r).map ch) = ch a ++ Str.ofString "" ++ Str.join (Str.ofString "") ((b :: r).map ch) := rfl
      rw [e, ih]
      have e2 : (Str.ofString "").cps = #[] := by decide
      show Str.mk ((#[a] ++ (Str.ofString "").cps) ++ (b :: r).toArray) = Str.mk (a :: b :: r).toArray
      rw [e2]; simp
theorem fm_row (m : Nat) : ∃ c, fm (m : Int) = txt (c :: row m) := by
  have h1 := texts_tail m
  have h2 := fmTexts_length (m : Int)
  have h3 := fmTexts_len (m : Int)
  unfold fm
  generalize fmTexts (m : Int) = l at h1 h2 h3
  cases l with
  | nil => cases h2
  | cons x r =>
    have hx := h3 x (List.mem_cons_self ..)
    obtain ⟨⟨cs⟩⟩ := x
    match cs, hx with
    | [c], _ =>
      refine ⟨c, ?_⟩
      rw [← join_ch, show r = (row m).map ch from h1]; rfl
theorem row_len (m : Nat) : (row m).length = 9 := by simp [row]
theorem row_mem (m : Nat) : ∀ c ∈ row m, c ∈ sgns := by
  intro c hc
  obtain ⟨k, hk, rfl⟩ := List.mem_map.mp hc
  have h : ∀ k < 9, ∀ b a, sgnB k b a ∈ sgns := by decide +kernel
  exact h k (List.mem_range.mp hk) _ _
def hB (k : Nat) (b a : Bool) : Int := if k % 3 = 2 then (if a then 2 else if b then 1 else 0) else if b then 1 else 0
def H (m : Nat) : List Int := (List.range 9).map fun k => hB k (m.testBit (8 - k)) (m.testBit (9 + (8 - k) / 3))
theorem getD_range {α : Type} (f : Nat → α) (d : α) {k n : Nat} (h : k < n) : ((List.range n).map f).getD k d = f k := by simp [List.getD_eq_getElem?_getD, h]
theorem heights_row (m : Nat) : heights (((row m).map fold).map ch) = H m := by
  unfold heights H
  apply List.map_congr_left
  intro k hk
  have hk := List.mem_range.mp hk
  have e : (((row m).map fold).map ch).getD k ⟨#[]⟩ = ch (fold (sgnB k (m.testBit (8 - k)) (m.testBit (9 + (8 - k) / 3)))) := by
    unfold row
    rw [List.map_map, List.map_map, getD_range _ _ hk]; rfl
  rw [e]
  have h : ∀ k < 9, ∀ b a, hgt (rk.getD k []) (ch (fold (sgnB k b a))) = hB k b a := by decide +kernel
  exact h k hk _ _
theorem fits_row (m : Nat) : fits (row m) ((row m).map fold) (m : Int) = true := by
  unfold fits
  rw [List.all_eq_true]
  intro k hk
  have hk := List.mem_range.mp hk
  have e1 : (row m).getD k 0 = sgnB k (m.testBit (8 - k)) (m.testBit (9 + (8 - k) / 3)) := by unfold row; rw [getD_range _ _ hk]
  have e2 : ((row m).map fold).getD k 0 = fold (sgnB k (m.testBit (8 - k)) (m.testBit (9 + (8 - k) / 3))) := by unfold row; rw [List.map_map, getD_range _ _ hk]; rfl
  unfold okF
  rw [e1, e2, bt1]
  have h : ∀ k < 9, ∀ b a, (!((([sgnB k b a] : List Nat) != [fold (sgnB k b a)]) && ((sgnB k b a : Int) + 32 != (fold (sgnB k b a) : Int))) &&
  !((([fold (sgnB k b a)] != (Str.ofString "-").cps.toList) && ([fold (sgnB k b a)] == [sgnB k b a])) != b)) = true := by decide +kernel
  exact h k hk _ _
theorem H_nonneg (m : Nat) : (H m).any (· == (-1 : Int)) = false := by
  rw [List.any_eq_false]
  intro x hx
  obtain ⟨k, hk, rfl⟩ := List.mem_map.mp hx
  unfold hB
  split <;> (repeat' split) <;> decide
theorem H_len (m : Nat) : (H m).length = 9 := by simp [H]

theorem all9 (f : Nat → Bool) : (List.range 9).all f = ((f 0 && f 1 && f 2) && (f 3 && f 4 && f 5) && (f 6 && f 7 && f 8)) := by
  have : (List.range 9).all f = (f 0 && (f 1 && (f 2 && (f 3 && (f 4 && (f 5 && (f 6 && (f 7 && (f 8 && true))))))))) := rfl
  rw [this]; simp only [Bool.and_true, Bool.and_assoc]
theorem all12 (f : Nat → Bool) : (List.range 12).all f = ((f 8 && f 7 && f 6 && f 11) && (f 5 && f 4 && f 3 && f 10) && (f 2 && f 1 && f 0 && f 9)) := by
  have : (List.range 12).all f = (f 0 && (f 1 && (f 2 && (f 3 && (f 4 && (f 5 && (f 6 && (f 7 && (f 8 && (f 9 && (f 10 && (f 11 && true)))))))))))) := rfl
  rw [this]
  generalize f 0 = x0; generalize f 1 = x1; generalize f 2 = x2; generalize f 3 = x3; generalize f 4 = x4; generalize f 5 = x5; generalize f 6 = x6; generalize f 7 = x7; generalize f 8 = x8; generalize f 9 = x9; generalize f 10 = x10; generalize f 11 = x11
  revert x0 x1 x2 x3 x4 x5 x6 x7 x8 x9 x10 x11
  decide
theorem okW_nat (a b k : Nat) : okW (a : Int) (b : Int) k = (!(a.testBit k && !b.testBit k) || (([0, 3, 6] : List Int).any (· == (k : Int)) && b.testBit (9 + k / 3))) := by
  unfold okW; rw [bt1, bt0, bt0, Bool.not_not]
theorem okW_no (a b k : Nat) (h : ([0, 3, 6] : List Int).any (· == (k : Int)) = false) : okW (a : Int) (b : Int) k = !(a.testBit k && !b.testBit k) := by
  rw [okW_nat, h, Bool.false_and, Bool.or_false]
theorem okW_yes (a b k : Nat) (h : ([0, 3, 6] : List Int).any (· == (k : Int)) = true) : okW (a : Int) (b : Int) k = (!(a.testBit k && !b.testBit k) || b.testBit (9 + k / 3)) := by
  rw [okW_nat, h, Bool.true_and]
theorem cls : ∀ r w x s r' w' x' s' : Bool, ∀ k ∈ [0, 3, 6], (!(r && !r') && !(w && !w') && (!(x && !x') || s') && !(s && !s')) =
    (!decide (hB k r' s' < hB k r s) && !decide (hB (k + 1) w' s' < hB (k + 1) w s) && !decide (hB (k + 2) x' s' < hB (k + 2) x s)) := by decide +kernel
theorem within_H (a b : Nat) : within (a : Int) (b : Int) = (List.range 9).all fun k => !decide ((H b).getD k 0 < (H a).getD k 0) := by
  unfold within
  rw [all12, all9, okW_no a b 8 (by decide), okW_no a b 7 (by decide), okW_yes a b 6 (by decide), okW_no a b 11 (by decide), okW_no a b 5 (by decide), okW_no a b 4 (by decide), okW_yes a b 3 (by decide), okW_no a b 10 (by decide), okW_no a b 2 (by decide), okW_no a b 1 (by decide), okW_yes a b 0 (by decide), okW_no a b 9 (by decide)]
  have hg : ∀ (m k : Nat), k < 9 → (H m).getD k 0 = hB k (m.testBit (8 - k)) (m.testBit (9 + (8 - k) / 3)) := fun m k hk => by unfold H; rw [getD_range _ _ hk]
  rw [hg a 0 (by decide), hg a 1 (by decide), hg a 2 (by decide), hg a 3 (by decide), hg a 4 (by decide), hg a 5 (by decide), hg a 6 (by decide), hg a 7 (by decide), hg a 8 (by decide),
    hg b 0 (by decide), hg b 1 (by decide), hg b 2 (by decide), hg b 3 (by decide), hg b 4 (by decide), hg b 5 (by decide), hg b 6 (by decide), hg b 7 (by decide), hg b 8 (by decide)]
  have c0 := cls (a.testBit 8) (a.testBit 7) (a.testBit 6) (a.testBit 11) (b.testBit 8) (b.testBit 7) (b.testBit 6) (b.testBit 11) 0 (by decide)
  have c1 := cls (a.testBit 5) (a.testBit 4) (a.testBit 3) (a.testBit 10) (b.testBit 5) (b.testBit 4) (b.testBit 3) (b.testBit 10) 3 (by decide)
  have c2 := cls (a.testBit 2) (a.testBit 1) (a.testBit 0) (a.testBit 9) (b.testBit 2) (b.testBit 1) (b.testBit 0) (b.testBit 9) 6 (by decide)
  show ((!(a.testBit 8 && !b.testBit 8) && !(a.testBit 7 && !b.testBit 7) && (!(a.testBit 6 && !b.testBit 6) || b.testBit 11) && !(a.testBit 11 && !b.testBit 11)) && (!(a.testBit 5 && !b.testBit 5) && !(a.testBit 4 && !b.testBit 4) && (!(a.testBit 3 && !b.testBit 3) || b.testBit 10) && !(a.testBit 10 && !b.testBit 10)) && (!(a.testBit 2 && !b.testBit 2) && !(a.testBit 1 && !b.testBit 1) && (!(a.testBit 0 && !b.testBit 0) || b.testBit 9) && !(a.testBit 9 && !b.testBit 9))) = _
  rw [c0, c1, c2]
end Mine

-- part P4
set_option Elab.async false
set_option maxRecDepth 100000
namespace Mine
def zs (ms : List Nat) : List Int := ms.map fun (m : Nat) => (m : Int)
theorem range_getD {α : Type} (l : List α) (d : α) : ((List.range l.length).map fun i => l.getD i d) = l := by
  apply List.ext_getElem
  · simp
  · intro i h1 h2; simp [List.getD_eq_getElem?_getD, h2]
theorem held_eq (ms : List Nat) (k : Nat) : held (zs ms) k = ms.countP (·.testBit k) := by
  unfold held
  rw [← List.countP_eq_length_filter]
  have e : (fun i => bt ((zs ms).getD i 0) k == 1) = ((fun x : Int => bt x k == 1) ∘ fun i => (zs ms).getD i 0) := rfl
  rw [e, ← List.countP_map, range_getD]
  unfold zs
  rw [List.countP_map]
  congr 1
  funext m
  exact bt1 m k
def shN (f : Nat → Bool) : Nat → Nat
  | 0 => 0
  | k + 1 => shN f k + (if f k then 2 ^ k else 0)
theorem shN_lt (f : Nat → Bool) : ∀ n, shN f n < 2 ^ n
  | 0 => by simp [shN]
  | n + 1 => by
    have := shN_lt f n
    unfold shN
    rw [Nat.pow_succ]
    split <;> omega
theorem shN_bit (f : Nat → Bool) (j : Nat) : ∀ n, (shN f n).testBit j = (decide (j < n) && f j)
  | 0 => by simp [shN]
  | n + 1 => by
    have ih := shN_bit f j n
    have hl := shN_lt f n
    unfold shN
    cases hf : f n with
    | false =>
      simp only [Bool.false_eq_true, if_false, Nat.add_zero]
      rw [ih]
      by_cases h : j = n
      · subst h; simp [hf]
      · have : (j < n + 1) ↔ (j < n) := by omega
        simp [this]
    | true =>
      simp only [if_true]
      rw [Nat.add_comm]
      rcases Nat.lt_trichotomy j n with h | h | h
      · rw [Nat.testBit_two_pow_add_gt h, ih]
        have : j < n + 1 := by omega
        simp [h, this]
      · subst h
        rw [Nat.testBit_two_pow_add_eq, ih]
        simp [hf]
      · have h2 : 2 ^ n + shN f n < 2 ^ j := Nat.lt_of_lt_of_le (by rw [Nat.pow_succ]; omega) (Nat.pow_le_pow_right (by decide) (show n + 1 ≤ j from h))
        rw [Nat.testBit_lt_two_pow h2]
        have : ¬ j < n + 1 := by omega
        simp [this]
def shared (ms : List Nat) (c : Nat) : Nat := shN (fun k => decide (c ≤ ms.countP (·.testBit k))) 12
theorem shr_eq (ms : List Nat) (c : Nat) : shr (zs ms) (c : Int) 12 = (shared ms c : Int) := by
  have h : ∀ n, shr (zs ms) (c : Int) n = ((shN (fun k => decide (c ≤ ms.countP (·.testBit k))) n : Nat) : Int) := by
    intro n
    induction n with
    | zero => rfl
    | succ n ih =>
      unfold shr shN
      rw [ih, held_eq]
      by_cases hc : c ≤ ms.countP (·.testBit n)
      · have : ((ms.countP (·.testBit n) : Nat) : Int) ≥ (c : Int) := by omega
        simp [this, hc]
      · have : ¬ ((ms.countP (·.testBit n) : Nat) : Int) ≥ (c : Int) := by omega
        simp [this, hc]
  exact h 12
theorem shared_lt (ms : List Nat) (c : Nat) : shared ms c < 65536 := Nat.lt_of_lt_of_le (shN_lt _ 12) (by decide)
theorem shared_bit (ms : List Nat) (c : Nat) {j : Nat} (h : j < 12) : (shared ms c).testBit j = decide (c ≤ ms.countP (·.testBit j)) := by
  unfold shared; rw [shN_bit]; simp [h]
/-- the place in a sorted list -/
theorem sorted_at {l : List Int} (hs : l.Pairwise (· ≤ ·)) {c : Nat} (h1 : 1 ≤ c) (h2 : c ≤ l.length) (v : Int) : v ≤ l.getD (l.length - c) 0 ↔ c ≤ l.countP fun x => decide (v ≤ x) := by
  have hlt : l.length - c < l.length := by omega
  have eg : l.getD (l.length - c) 0 = l[l.length - c] := by rw [List.getD_eq_getElem?_getD, List.getElem?_eq_getElem hlt]; rfl
  have hpw := List.pairwise_iff_getElem.mp hs
  have hsplit : l.countP (fun x => decide (v ≤ x)) = (l.take (l.length - c)).countP (fun x => decide (v ≤ x)) + (l.drop (l.length - c)).countP (fun x => decide (v ≤ x)) := by
    rw [← List.countP_append, List.take_append_drop]
  rw [eg]
  constructor
  · intro h
    have : (l.drop (l.length - c)).countP (fun x => decide (v ≤ x)) = (l.drop (l.length - c)).length := by
      rw [List.countP_eq_length]
      intro x hx
      obtain ⟨i, hi, rfl⟩ := List.mem_iff_getElem.mp hx
      rw [List.getElem_drop]
      have hi' : l.length - c + i < l.length := by rw [List.length_drop] at hi; omega
      by_cases h0 : i = 0
      · subst h0; simpa using h
      · have := hpw (l.length - c) (l.length - c + i) hlt hi' (by omega)
        simp; omega
    rw [hsplit, this, List.length_drop]; omega
  · intro h
    refine Classical.byContradiction fun hn => ?_
    have hsplit2 : l.countP (fun x => decide (v ≤ x)) = (l.take (l.length - c + 1)).countP (fun x => decide (v ≤ x)) + (l.drop (l.length - c + 1)).countP (fun x => decide (v ≤ x)) := by
      rw [← List.countP_append, List.take_append_drop]
    have z : (l.take (l.length - c + 1)).countP (fun x => decide (v ≤ x)) = 0 := by
      rw [List.countP_eq_zero]
      intro x hx
      obtain ⟨i, hi, rfl⟩ := List.mem_iff_getElem.mp hx
      rw [List.getElem_take]
      rw [List.length_take] at hi
      by_cases h0 : i = l.length - c
      · subst h0; simpa using hn
      · have := hpw i (l.length - c) (by omega) hlt (by omega)
        simp; omega
    have le := List.countP_le_length (p := fun x => decide (v ≤ x)) (l := l.drop (l.length - c + 1))
    rw [List.length_drop] at le
    omega
theorem col_eq (ms : List Nat) (k : Nat) : col (ms.map H) k = ms.map fun m => (H m).getD k 0 := by
  unfold col
  have : (fun j => ((ms.map H).getD j []).getD k 0) = ((fun r : List Int => r.getD k 0) ∘ fun j => (ms.map H).getD j []) := rfl
  rw [this, ← List.map_map, range_getD, List.map_map]; rfl
theorem H_at (m : Nat) {k : Nat} (hk : k < 9) : (H m).getD k 0 = hB k (m.testBit (8 - k)) (m.testBit (9 + (8 - k) / 3)) := by unfold H; rw [getD_range _ _ hk]
theorem due_eq {ms : List Nat} {c k : Nat} {d : Int} (h1 : 1 ≤ c) (h2 : c ≤ ms.length) (hk : k < 9) (h : DueAt (zs ms) (ms.map H) c k d) : d = (H (shared ms c)).getD k 0 := by
  obtain ⟨l, hp, hs, rfl⟩ := h
  rw [col_eq] at hp
  have hl : l.length = ms.length := by rw [hp.length_eq, List.length_map]
  have hML : (ms.map H).length = l.length := by rw [List.length_map, hl]
  rw [hML, held_eq]
  have key := fun v => sorted_at hs h1 (by rw [hl]; exact h2) v
  generalize l.getD (l.length - c) 0 = x at key
  have cnt : ∀ v, l.countP (fun y => decide (v ≤ y)) = ms.countP fun m => decide (v ≤ hB k (m.testBit (8 - k)) (m.testBit (9 + (8 - k) / 3))) := fun v => by
    rw [hp.countP_eq, List.countP_map]
    congr 1
    funext m
    show decide (v ≤ (H m).getD k 0) = _
    rw [H_at m hk]
  rw [H_at _ hk, shared_bit ms c (j := 8 - k) (by omega), shared_bit ms c (j := 9 + (8 - k) / 3) (by omega)]
  have k0 := key 0
  have k1 := key 1
  have k2 := key 2
  have k3 := key 3
  rw [cnt] at k0 k1 k2 k3
  have c3 : ms.countP (fun m => decide (3 ≤ hB k (m.testBit (8 - k)) (m.testBit (9 + (8 - k) / 3)))) = 0 := by
    rw [List.countP_eq_zero]; intro m _
    have : ∀ k < 9, ∀ b a, ¬ (decide (3 ≤ hB k b a) = true) := by decide +kernel
    exact this k hk _ _
  have c0 : ms.countP (fun m => decide (0 ≤ hB k (m.testBit (8 - k)) (m.testBit (9 + (8 - k) / 3)))) = ms.length := by
    rw [List.countP_eq_length]; intro m _
    have : ∀ k < 9, ∀ b a, decide (0 ≤ hB k b a) = true := by decide +kernel
    exact this k hk _ _
  rw [c3] at k3
  rw [c0] at k0
  by_cases hx : k % 3 = 2
  · have e2 : ∀ m : Nat, decide (2 ≤ hB k (m.testBit (8 - k)) (m.testBit (9 + (8 - k) / 3))) = m.testBit (9 + (8 - k) / 3) := fun m => by
      have : ∀ k < 9, k % 3 = 2 → ∀ b a, decide (2 ≤ hB k b a) = a := by decide +kernel
      exact this k hk hx _ _
    have e1 : ∀ m : Nat, decide (1 ≤ hB k (m.testBit (8 - k)) (m.testBit (9 + (8 - k) / 3))) = (m.testBit (8 - k) || m.testBit (9 + (8 - k) / 3)) := fun m => by
      have : ∀ k < 9, k % 3 = 2 → ∀ b a, decide (1 ≤ hB k b a) = (b || a) := by decide +kernel
      exact this k hk hx _ _
    simp only [e2] at k2
    simp only [e1] at k1
    have le1 : ms.countP (fun m => m.testBit (8 - k)) ≤ ms.countP (fun m => m.testBit (8 - k) || m.testBit (9 + (8 - k) / 3)) := List.countP_mono_left fun m _ h => by simp [h]
    unfold hB
    rw [if_pos hx]
    generalize ms.countP (fun m => m.testBit (8 - k)) = hb at *
    generalize ms.countP (fun m => m.testBit (9 + (8 - k) / 3)) = ha at *
    generalize ms.countP (fun m => m.testBit (8 - k) || m.testBit (9 + (8 - k) / 3)) = hab at *
    by_cases q2 : c ≤ ha
    · have : x = 2 := by have := k2.mpr q2; have := fun h => (k3.mp h); omega
      subst this; simp [q2]
    · have hx2 : ¬ 2 ≤ x := fun h => q2 (k2.mp h)
      by_cases q1 : c ≤ hab
      · have : x = 1 := by have := k1.mpr q1; omega
        subst this
        by_cases qb : c ≤ hb
        · have : ¬ ((hb : Int) < (c : Int)) := by omega
          simp [q2, qb, this]
        · have : ((hb : Int) < (c : Int)) := by omega
          simp [q2, qb, this]
      · have hx1 : ¬ 1 ≤ x := fun h => q1 (k1.mp h)
        have : x = 0 := by have := k0.mpr h2; omega
        subst this
        have : ¬ c ≤ hb := by omega
        simp [q2, this]
  · have e1 : ∀ m : Nat, decide (1 ≤ hB k (m.testBit (8 - k)) (m.testBit (9 + (8 - k) / 3))) = m.testBit (8 - k) := fun m => by
      have : ∀ k < 9, ¬ k % 3 = 2 → ∀ b a, decide (1 ≤ hB k b a) = b := by decide +kernel
      exact this k hk hx _ _
    have e2 : ms.countP (fun m => decide (2 ≤ hB k (m.testBit (8 - k)) (m.testBit (9 + (8 - k) / 3)))) = 0 := by
      rw [List.countP_eq_zero]; intro m _
      have : ∀ k < 9, ¬ k % 3 = 2 → ∀ b a, ¬ (decide (2 ≤ hB k b a) = true) := by decide +kernel
      exact this k hk hx _ _
    rw [e2] at k2
    simp only [e1] at k1
    unfold hB
    rw [if_neg hx]
    generalize ms.countP (fun m => m.testBit (8 - k)) = hb at *
    have hx2 : ¬ 2 ≤ x := fun h => by have := k2.mp h; omega
    by_cases q1 : c ≤ hb
    · have : x = 1 := by have := k1.mpr q1; omega
      subst this
      have : ¬ ((hb : Int) < (c : Int)) := by omega
      simp [q1, this]
    · have hx1 : ¬ 1 ≤ x := fun h => q1 (k1.mp h)
      have : x = 0 := by have := k0.mpr h2; omega
      subst this
      simp [q1]
end Mine

-- part L1
set_option Elab.async false
set_option maxRecDepth 100000
namespace Mine
noncomputable abbrev laE (L : Addr) : Env := envOfC (fName (stm 34)) (fScope (stm 34)) L 153 (.ref 152)
def laB : List Stmt := fBody (stm 34)
def mods (ns : List Int) : List Nat := if ns = [] then [2304, 97] else (ns.take 4).map fun x => (x.fmod 65536).toNat
def turn0 (ns : List Int) : Nat := if ns = [] then 0 else (((ns.getD 0 0).fdiv 65536).fmod 12).toNat
theorem zs_mods {ns : List Int} (h : ns ≠ []) : zs (mods ns) = (ns.take 4).map fun x => x.fmod 65536 := by
  unfold mods zs
  rw [if_neg h, List.map_map]
  apply List.map_congr_left
  intro x _
  show ((x.fmod 65536).toNat : Int) = _
  have : 0 ≤ x.fmod 65536 := Int.fmod_nonneg_of_pos _ (by decide)
  omega
section
variable {w : World} {mg mb : Str → Option Value} {A : Around} {E : Value → Shared → Prop} {s : Shared} {base : Heap} {env : Env} {vs : List (Str × Value)}
theorem slice_take {value : PySem.Expr} {upper : PySem.Expr} {p pos : Pos} {Q : Value → Shared → Prop} {a : Addr} {xs : List Value} {k : Nat} {hh : Heap} (hg : Grown s.heap hh)
    (h : wpAny (MD w) A (eval value env) (fun o s₁ => o = .ref a ∧ wpAny (MD w) A (eval upper env) (fun u s₂ => ∃ t tk, u = .int (k : Int) t ∧ s₂ = { s with heap := hh, toks := tk } ∧ hh.IsList a xs.toArray ∧ xs.length ≤ 1000 ∧
      ∀ P h' tk, s.heap.get? P = none → h'.PlainList P (xs.take k).toArray → Grown s.heap h' → Q (.ref P) { s with heap := h', toks := tk }) E s₁) E s)
    (ht : ∀ o r, letTemporaryGo value o r = pure ()) :
    wpAny (MD w) A (eval (.Subscript value (.Slice none (some upper) none p) pos) env) Q E s := by
  refine wpAny_Subscript_list_slice (wpAny_mono h (fun o s₁ h₁ => ?_) fun _ _ e => e) ht
  obtain ⟨rfl, h₁⟩ := h₁
  show wpAny _ _ (pure Value.none) _ _ _
  refine wpAny_pure (wpAny_mono h₁ (fun u s₂ h₂ => ?_) fun _ _ e => e)
  obtain ⟨t, tk, rfl, rfl, hl, hsz, h₂⟩ := h₂
  refine ⟨a, _, none, some (k : Int), rfl, hl, by rw [sizeLine_eq]; simp; omega, .none, .int _ _, ?_⟩
  have e2 : slicePick xs.toArray none (some (k : Int)) none = (xs.take k).toArray := slicePick_upto' xs.toArray k
  rw [e2]
  refine h₂ _ _ _ (hg.none (get_none_of_le (Nat.le_succ _))) ⟨0, ?_⟩ (hg.trans fun b o e => Heap.get?_push_of_some _ (Heap.get?_push_of_some _ e))
  have := Heap.get?_push_size (hh.push { cls := .type "slice", data := .fields #[.none, .int k t, .none] }) (o := { cls := .type "list", data := .seq (xs.take k).toArray }) rfl
  rw [Heap.size_push] at this
  exact this
set_option maxHeartbeats 1000000 in
theorem la0 {L l : Addr} {ls : List Value} {ns : List Int} {Z : Flow → Shared → Prop} (G : Gd w mg mb base) (hh : A.handled = none) (hu : A.units + 64 < cLine) (hl : base.IsList l ls.toArray) (hi : IntsAre ls ns) (hlen : ns.length ≤ 63) (F : FF base (laE L) s.heap [(Str.ofString "script", .ref l)])
    (h : ∀ N nvs h' tk, base.get? N = none → N ∉ own (laE L) → h'.PlainList N nvs → IntsAre nvs.toList (zs (mods ns)) → FF base (laE L) h' [(Str.ofString "script", .ref l), (Str.ofString "numbers", .ref N)] → wpAny (MD w) A (execs (laB.drop 1) (laE L)) Z E { s with heap := h', toks := tk }) :
    wpAny (MD w) A (execs laB (laE L)) Z E s := by
  have hl₁ := hl.at fun o e => F.keep _ o e
  have hll : ls.length = ns.length := hi.length
  refine wpAny_execs_cons ?_
  refine wpAny_Assign_Name ?_
  refine wpAny_IfExp ?_
  refine wpAny_isTrue_Compare1 ?_
  refine lv F rfl ?_
  refine List_ (args_nil (newListB (by simp) fun h₂ P₂ g₂ l₂ n₂ => ?_))
  refine ke_ne_ints (hl₁.at fun o e => g₂ _ o e) l₂.isList hi .nil hu (wpAny_truthy_bool ?_)
  have F₂ := F.grown g₂
  have fin : ∀ N nvs h₃ tk, h₂.get? N = none → h₃.PlainList N nvs → IntsAre nvs.toList (zs (mods ns)) → Grown h₂ h₃ → wpAny (MD w) A (storeName (laE L) (Str.ofString "numbers") (.ref N)) (fun _ s' => wpAny (MD w) A (execs (laB.drop 1) (laE L)) Z E s') E { s with heap := h₃, toks := tk } := fun N nvs h₃ tk n₃ pl₃ i₃ g₃ => by
    refine sv (F₂.grown g₃) fun h₄ tk₄ F₄ b₄ => ?_
    have hNo : N ∉ own (laE L) := F₂.notOwn n₃
    exact h N nvs h₄ tk₄ (F₂.fresh n₃) hNo (pl₃.at fun o e => b₄ _ o hNo e) i₃ (F₄.sub _ rfl)
  by_cases hns : ns = []
  · refine ifF (by rw [decide_eq_true hns]; rfl) ?_
    refine List_ (args_cons (wpAny_Constant_int (args_cons (wpAny_Constant_int (args_nil (newListB (by simp) fun h₃ P₃ g₃ l₃ n₃ => ?_))))))
    refine fin P₃ _ h₃ _ n₃ l₃ ?_ g₃
    unfold mods; rw [if_pos hns]
    exact .cons _ _ (.cons _ _ .nil)
  · refine ifT (by rw [decide_eq_false hns]; rfl) ?_
    refine lcomp (base := base) (vs := _) (fun _ => true) (fun _ j y _ => ∃ t, y = .int (((ns.take 4).getD j 0).fmod 65536) t) [] F₂ (cl := []) rfl (by simp) ?_ rfl ?_ rfl rfl (fun _ _ _ _ _ q _ => q) ?_
    · decide +kernel
    · decide +kernel
    refine slice_take (a := l) (xs := ls) (k := 4) (hh := h₂) (Grown.refl _) (lv F₂ rfl ⟨rfl, wpAny_Constant_int ⟨_, _, rfl, rfl, hl₁.at fun o e => g₂ _ o e, by omega, fun P₃ h₃ tk₃ n₃ l₃ g₃ => ?_⟩⟩) ?_
    rotate_left
    · intro _ _; rfl
    refine itl l₃.isList hh fun I St h₄ tk₄ g₄ hI hlt W st₀ al => ?_
    refine ⟨I, _, _, _, St, h₄, tk₄, rfl, rfl, W, ?_, st₀, ?_, g₃.none hI, al, g₃.trans g₄, ?_, ?_, ?_⟩
    · simp; omega
    · intro b hb
      rcases List.mem_cons.mp hb with rfl | hb
      · exact hlt
      · rw [List.mem_singleton.mp hb]; obtain ⟨o, ho, _⟩ := l₃.isList; exact Heap.lt_size (g₄ _ o ho)
    · intro C j v h tk E' hj hv FC gC
      exact wpAny_tests_nil ⟨rfl, Keeps.rfl'⟩
    · intro X C j v h tk E' hj hv hp FC gC hX
      obtain ⟨t', rfl⟩ := ints_get (hi.take 4) (by simpa using hv)
      refine wpAny_BinOp (lv FC rfl (wpAny_Constant_int (mod_int (by decide) ⟨⟨_, rfl⟩, Keeps.toks⟩)))
    · intro X D h₅ tk₅ ys hX hD hPl hPd g₅
      refine fin D ys h₅ tk₅ (hX D hD) hPl ?_ g₅
      have e1 : (ls.take 4).toArray.size = (ns.take 4).length := by simp [hll]
      rw [e1, filter_all] at hPd
      have := ints_of hPd
      rw [zs_mods hns]
      have e3 : ((List.range (ns.take 4).length).map fun i => ((ns.take 4).getD i 0).fmod 65536) = (ns.take 4).map fun x => x.fmod 65536 := by
        have : (fun i => ((ns.take 4).getD i 0).fmod 65536) = (fun x : Int => x.fmod 65536) ∘ fun i => (ns.take 4).getD i 0 := rfl
        rw [this, ← List.map_map, range_getD]
      rw [e3] at this
      exact this
end
end Mine

-- part L2
set_option Elab.async false
set_option maxRecDepth 100000
namespace Mine
theorem ints_app {a b : List Value} {x y : List Int} (h : IntsAre a x) (h' : IntsAre b y) : IntsAre (a ++ b) (x ++ y) := h.append h'
def mems (ms : List Nat) : List Nat := ms ++ (List.range ms.length).map fun j => shared ms (j + 1)
theorem mods_len (ns : List Int) : 1 ≤ (mods ns).length ∧ (mods ns).length ≤ 4 := by
  unfold mods
  split
  · exact ⟨by decide, by decide⟩
  · rename_i h
    rw [List.length_map, List.length_take]
    have : ns.length ≠ 0 := fun e => h (List.length_eq_zero_iff.mp e)
    omega
theorem mods_lt (ns : List Int) : ∀ m ∈ mods ns, m < 65536 := by
  unfold mods
  split
  · decide
  · intro m hm
    obtain ⟨x, _, rfl⟩ := List.mem_map.mp hm
    have := Int.fmod_lt_of_pos x (show (0 : Int) < 65536 by decide)
    omega
noncomputable def tyc (m : Nat) : Nat := (fm_row m).choose
noncomputable def full (m : Nat) : List Nat := tyc m :: row m
theorem fm_full (m : Nat) : fm (m : Int) = txt (full m) := (fm_row m).choose_spec
section
variable {w : World} {mg mb : Str → Option Value} {A : Around} {E : Value → Shared → Prop} {s : Shared} {base : Heap} {env : Env} {vs : List (Str × Value)}
set_option maxHeartbeats 1000000 in
theorem la1 {L l N : Addr} {ls : List Value} {ns : List Int} {nvs : Array Value} {Z : Flow → Shared → Prop} (hu : A.units + 64 < cLine) (hl : base.IsList l ls.toArray) (hi : IntsAre ls ns) (F : FF base (laE L) s.heap [(Str.ofString "script", .ref l), (Str.ofString "numbers", .ref N)]) (hN : s.heap.PlainList N nvs) (hNo : N ∉ own (laE L))
    (h : ∀ ts h' tk, h'.PlainList N nvs → FF base (laE L) h' [(Str.ofString "numbers", .ref N), (Str.ofString "start", .int (turn0 ns : Int) ts)] → wpAny (MD w) A (execs (laB.drop 2) (laE L)) Z E { s with heap := h', toks := tk }) :
    wpAny (MD w) A (execs (laB.drop 1) (laE L)) Z E s := by
  have hl₁ := hl.at fun o e => F.keep _ o e
  have hll : ls.length = ns.length := hi.length
  refine wpAny_execs_cons ?_
  refine wpAny_Assign_Name ?_
  refine wpAny_IfExp ?_
  refine wpAny_isTrue_Compare1 ?_
  refine lv F rfl ?_
  refine List_ (args_nil (newListB (by simp) fun h₂ P₂ g₂ l₂ n₂ => ?_))
  refine ke_ne_ints (hl₁.at fun o e => g₂ _ o e) l₂.isList hi .nil hu (wpAny_truthy_bool ?_)
  have F₂ := F.grown g₂
  have fin : ∀ t tk, wpAny (MD w) A (storeName (laE L) (Str.ofString "start") (.int (turn0 ns : Int) t)) (fun _ s' => wpAny (MD w) A (execs (laB.drop 2) (laE L)) Z E s') E { s with heap := h₂, toks := tk } := fun t tk => by
    refine sv F₂ fun h₄ tk₄ F₄ b₄ => ?_
    exact h t h₄ tk₄ (hN.at fun o e => b₄ _ o hNo (g₂ _ o e)) (F₄.sub _ rfl)
  by_cases hns : ns = []
  · refine ifF (by rw [decide_eq_true hns]; rfl) ?_
    refine wpAny_Constant_int ?_
    have e : turn0 ns = 0 := by unfold turn0; rw [if_pos hns]
    have key := fin s.toks (s.toks + 1)
    rw [e] at key
    exact key
  · refine ifT (by rw [decide_eq_false hns]; rfl) ?_
    have hlen0 : ns.length ≠ 0 := fun e => hns (List.length_eq_zero_iff.mp e)
    obtain ⟨x, hx⟩ : ∃ x, ls[0]? = some x := ⟨ls[0]'(by omega), List.getElem?_eq_getElem _⟩
    obtain ⟨t', rfl⟩ := ints_get hi hx
    have hx' : ls.toArray[(0 : Int).toNat]? = some (.int (ns.getD 0 0) t') := by rw [← hx]; simp
    refine wpAny_BinOp ?_
    refine wpAny_BinOp ?_
    refine Subscript_ ?_
    refine lv F₂ rfl (wpAny_Constant_int ?_)
    refine list_item (M := MD w) (hl₁.at fun o e => g₂ _ o e) (by decide) (by decide) hx' ?_ (by rfl)
    refine wpAny_Constant_int (floordiv_int (by decide) (wpAny_Constant_int (mod_int (by decide) ?_)))
    have e : ((ns.getD 0 0).fdiv 65536).fmod 12 = (turn0 ns : Int) := by
      unfold turn0; rw [if_neg hns]
      have : 0 ≤ ((ns.getD 0 0).fdiv 65536).fmod 12 := Int.fmod_nonneg_of_pos _ (by decide)
      omega
    rw [e]
    exact fin _ _
set_option maxHeartbeats 1000000 in
theorem la2 {L N : Addr} {tn : Nat} {ts : Tok} {ms : List Nat} {nvs : Array Value} {Z : Flow → Shared → Prop} (G : Gd w mg mb base) (R : Room A 1) (hi : IntsAre nvs.toList (zs ms)) (h1 : 1 ≤ ms.length) (h4 : ms.length ≤ 4) (F : FF base (laE L) s.heap [(Str.ofString "numbers", .ref N), (Str.ofString "start", .int (tn : Int) ts)]) (hN : s.heap.PlainList N nvs) (hNo : N ∉ own (laE L)) (hNb : base.get? N = none)
    (h : ∀ B bvs h' tk, base.get? B = none → B ∉ own (laE L) → h'.PlainList B bvs → IntsAre bvs.toList (zs (mems ms)) → h'.PlainList N nvs → FF base (laE L) h' [(Str.ofString "numbers", .ref N), (Str.ofString "start", .int (tn : Int) ts), (Str.ofString "members", .ref B)] → wpAny (MD w) A (execs (laB.drop 3) (laE L)) Z E { s with heap := h', toks := tk }) :
    wpAny (MD w) A (execs (laB.drop 2) (laE L)) Z E s := by
  obtain ⟨nl⟩ := nvs
  have hi : IntsAre nl (zs ms) := hi
  have hnl : nl.length = ms.length := by rw [hi.length]; simp [zs]
  refine wpAny_execs_cons ?_
  refine wpAny_Assign_Name ?_
  refine wpAny_BinOp ?_
  refine lv F rfl ?_
  refine lcomp (base := base) (vs := _) (fun _ => true) (fun _ j y _ => ∃ t, y = .int (shr (zs ms) ((j : Int) + 1) 12) t) [(Str.ofString "numbers", .ref N)] F (cl := [(Str.ofString "numbers", L + 1)]) rfl ?_ ?_ rfl ?_ rfl rfl (fun _ _ _ _ _ q _ => q) ?_
  · intro q hq
    have e : (laE L).cells = [(Str.ofString "j", L + 4), (Str.ofString "i", L + 3), (Str.ofString "tops", L + 2), (Str.ofString "numbers", L + 1)] := rfl
    rw [e, List.mem_singleton.mp hq]; simp
  · decide +kernel
  · decide +kernel
  refine Call_ ?_
  refine gB F G (by kernel_rfl) (by boot_by_name) (by decide) ?_
  refine PyProof.Rows.callWith_type1 ?_
  refine args_cons (wpAny_Constant_int ?_)
  refine args_cons ?_
  refine wpAny_BinOp ?_
  refine Call_ ?_
  refine gB F G (by kernel_rfl) (by boot_by_name) (by decide) ?_
  refine callWith_builtin1 (args_cons (lv F rfl (args_nil (len_list hN.isList (by simp; omega) (wpAny_Constant_int (add_int (args_nil ?_))))))) 
  have e1 : (((nl.toArray.size : Nat) : Int) + 1) = ((ms.length : Nat) : Int) + 1 := by simp [hnl]
  have e0 : nl.toArray.size = ms.length := by simp [hnl]
  refine st_eq { s with heap := s.heap, toks := _ } rfl ?_
  have key := rng2 (w := w) (A := A) (E := E) (s := { s with heap := s.heap, toks := s.toks + 1 + 1 + 1 + 1 + 1 }) (n := nl.toArray.size) (t := s.toks) (u := s.toks + 1 + 1 + 1 + 1) (by rw [e0]; omega) R.h (Q := fun it s₂ => ∃ I fp n P St h₂ tk₂, it = .ref I ∧ s₂ = { s with heap := h₂, toks := tk₂ } ∧ Walks PW w A I fp [I] n P St ∧ n ≤ 1000 ∧ St 0 h₂ ∧ (∀ b ∈ fp, b < h₂.objs.size) ∧ s.heap.get? I = none ∧ (∀ i h, St i h → h.get? I ≠ none) ∧ Grown s.heap h₂ ∧ n = nl.toArray.size ∧ P = fun i v => ∃ t, v = .int ((i : Int) + 1) t) (fun I St h₃ tk₃ g₃ hI hlt W st₀ al => ⟨I, _, _, _, St, h₃, tk₃, rfl, rfl, W, by rw [e0]; omega, st₀, fun b hb => by rw [List.mem_singleton.mp hb]; exact hlt, hI, al, g₃, rfl, rfl⟩)
  refine wpAny_mono key (fun xv s₁ h₁ => wpAny_mono h₁ (fun it s₂ h₂ => ?_) fun _ _ e => e) fun _ _ e => e
  obtain ⟨I, fp, n, P, St, h₃, tk₃, rfl, rfl, W, hn, st₀, hfp, hI, al, g₃, rfl, rfl⟩ := h₂
  refine ⟨I, fp, _, _, St, h₃, tk₃, rfl, rfl, W, hn, st₀, hfp, hI, al, g₃, ?_, ?_, ?_⟩
  · intro C j v h tk E' hj hv FC gC
    exact wpAny_tests_nil ⟨rfl, Keeps.rfl'⟩
  · intro X C j v h tk E' hj hv hp FC gC hX
    obtain ⟨tv, rfl⟩ := hv
    refine Call_ ?_
    refine gK (v := .ref 143) FC G (by kernel_rfl) ?_
    refine callWith_def (o := ob143) rfl ?_
    refine args_cons (lv FC rfl (args_cons (lv FC rfl (args_nil ⟨FC.keep _ _ (G.X 143 _ rfl), ?_⟩))))
    refine c_shared (ls := nl) (ns := zs ms) (G.keeps FC.keep) R (hN.isList.at fun o e => gC _ o e) hi (by simp [zs]; omega) fun t' h' tk' g' => ?_
    exact ⟨⟨t', rfl⟩, ⟨h', tk', rfl, g'⟩⟩
  · intro X D h₄ tk₄ ys hX hD hPl hPd g₄
    rw [e0, filter_all] at hPd
    obtain ⟨yl⟩ := ys
    have hyi := ints_of hPd
    have ez : ((List.range ms.length).map fun j => shr (zs ms) (((j : Nat) : Int) + 1) 12) = zs ((List.range ms.length).map fun j => shared ms (j + 1)) := by
      unfold zs
      rw [List.map_map]
      apply List.map_congr_left
      intro j _
      exact shr_eq ms (j + 1)
    rw [ez] at hyi
    have hyl : yl.length = ms.length := by have := hyi.length; simpa [zs] using this
    refine addL (xs := nl) (ys := yl) (hN.at fun o e => g₄ _ o e) hPl (by omega) fun B h₅ n₅ l₅ g₅ => ?_
    have F₄ := F.grown g₄
    refine sv (F₄.grown g₅) fun h₆ tk₆ F₆ b₆ => ?_
    refine st_eq { s with heap := h₆, toks := tk₆ } rfl ?_
    have hBo : B ∉ own (laE L) := F₄.notOwn n₅
    refine h B _ h₆ tk₆ (F₄.fresh n₅) hBo (l₅.at fun o e => b₆ _ o hBo e) ?_ (hN.at fun o e => b₆ _ o hNo (g₅ _ o (g₄ _ o e))) (F₆.sub _ rfl)
    have e2 : zs (mems ms) = zs ms ++ zs ((List.range ms.length).map fun j => shared ms (j + 1)) := by unfold zs mems; rw [List.map_append]
    rw [e2]
    exact ints_app hi hyi
end
end Mine

-- part L3
set_option Elab.async false
set_option maxRecDepth 100000
namespace Mine
theorem strs_ofS {f : Nat → Str} : ∀ {is : List Nat} {ys : List Value}, Paired (fun i y => ∃ t, y = Value.str (f i) t) is ys → StrsAre ys (is.map f)
  | _, _, .nil => .nil
  | _, _, .cons ⟨t, e⟩ r => by subst e; exact .cons _ t (strs_ofS r)
theorem range_map_getD {α β : Type} (l : List α) (d : α) (f : α → β) : ((List.range l.length).map fun i => f (l.getD i d)) = l.map f := by
  have : (fun i => f (l.getD i d)) = f ∘ fun i => l.getD i d := rfl
  rw [this, ← List.map_map, range_getD]
theorem mems_len (ms : List Nat) : (mems ms).length = 2 * ms.length := by simp [mems]; omega
theorem slice10 (a b c d e f g h i j : Nat) : Txt.slice (txt [a, b, c, d, e, f, g, h, i, j]) (some 1) none = txt [b, c, d, e, f, g, h, i, j] := by
  have hi : Builtin.Str.strSliceIndices (some 1) none 1 10 = [1, 2, 3, 4, 5, 6, 7, 8, 9] := by decide +kernel
  unfold Txt.slice
  have hl : (txt [a, b, c, d, e, f, g, h, i, j]).length = 10 := rfl
  rw [hl]
  rw [hi]; rfl
theorem slice_full (m : Nat) : Txt.slice (txt (full m)) (some 1) none = txt (row m) := slice10 _ _ _ _ _ _ _ _ _ _
theorem full_len (m : Nat) : (txt (full m)).length = 10 := by simp [txt, full, Str.length, row]
theorem zs_getD {ms : List Nat} {j : Nat} : (zs ms).getD j 0 = ((ms.getD j 0 : Nat) : Int) := by
  unfold zs
  rw [List.getD_eq_getElem?_getD, List.getElem?_map, List.getD_eq_getElem?_getD]
  cases ms[j]? <;> rfl
section
variable {w : World} {mg mb : Str → Option Value} {A : Around} {E : Value → Shared → Prop} {s : Shared} {base : Heap} {env : Env} {vs : List (Str × Value)}
def la3V (N B : Addr) (tn : Nat) (ts : Tok) : List (Str × Value) := [(Str.ofString "numbers", .ref N), (Str.ofString "start", .int (tn : Int) ts), (Str.ofString "members", .ref B)]
def la4V (N B Ln : Addr) (tn : Nat) (ts : Tok) : List (Str × Value) := [(Str.ofString "numbers", .ref N), (Str.ofString "start", .int (tn : Int) ts), (Str.ofString "members", .ref B), (Str.ofString "lines", .ref Ln)]
set_option maxHeartbeats 1000000 in
theorem la3 {L N B : Addr} {tn : Nat} {ts : Tok} {mm : List Nat} {bvs : Array Value} {Z : Flow → Shared → Prop} (G : Gd w mg mb base) (R : Room A 2) (hi : IntsAre bvs.toList (zs mm)) (hm : mm.length ≤ 100) (F : FF base (laE L) s.heap (la3V N B tn ts)) (hB : s.heap.PlainList B bvs)
    (h : ∀ Ln lvs h' tk, base.get? Ln = none → Ln ∉ own (laE L) → h'.PlainList Ln lvs → StrsAre lvs.toList ((mm.map full).map txt) → FF base (laE L) h' (la4V N B Ln tn ts) → But (own (laE L)) s.heap h' → wpAny (MD w) A (execs (laB.drop 4) (laE L)) Z E { s with heap := h', toks := tk }) :
    wpAny (MD w) A (execs (laB.drop 3) (laE L)) Z E s := by
  obtain ⟨bl⟩ := bvs
  have hi : IntsAre bl (zs mm) := hi
  have hbl : bl.length = mm.length := by rw [hi.length]; simp [zs]
  refine wpAny_execs_cons ?_
  refine lassign (base := base) (vs := _) (fun _ => true) (fun _ j y _ => ∃ t, y = .str (txt (full (mm.getD j 0))) t) [] F (cl := []) rfl rfl (by simp) ?_ rfl ?_ rfl rfl (.inl rfl) (fun _ _ _ _ _ q _ => q) ?_
  · decide +kernel
  · decide +kernel
  refine lv F rfl (itl hB.isList R.h fun I St h₂ tk₂ g₂ hI hlt W st₀ al => ?_)
  refine ⟨I, _, _, _, St, h₂, tk₂, rfl, rfl, W, by simp; omega, st₀, ?_, hI, al, g₂, ?_, ?_, ?_⟩
  · intro b hb
    rcases List.mem_cons.mp hb with rfl | hb
    · exact hlt
    · rw [List.mem_singleton.mp hb]; obtain ⟨o, ho, _⟩ := hB.isList; exact Heap.lt_size (g₂ _ o ho)
  · intro C j v h tk E' hj hv FC gC
    exact wpAny_tests_nil ⟨rfl, Keeps.rfl'⟩
  · intro X C j v h tk E' hj hv hp FC gC hX
    obtain ⟨t', rfl⟩ := ints_get hi (by simpa using hv)
    rw [zs_getD] at FC
    refine Call_ ?_
    refine gK (v := .ref 61) FC G (by kernel_rfl) ?_
    refine callWith_def (o := sh.o_56 w.params) rfl ?_
    refine args_cons (lv FC rfl (args_nil ⟨FC.keep _ _ (G.X 61 _ rfl), ?_⟩))
    refine c_filemode (G.keeps FC.keep) R fun t'' h' tk' g' => ?_
    exact ⟨⟨t'', by rw [fm_full]⟩, ⟨h', tk', rfl, g'⟩⟩
  · intro X Ln h₃ h₄ tk₄ ys hX hD hPl hPd g₃ b₃ hPl₄ F₄ b₄
    have e0 : bl.toArray.size = mm.length := by simp [hbl]
    rw [e0, filter_all] at hPd
    have := strs_ofS hPd
    rw [range_map_getD mm 0 (fun m => txt (full m))] at this
    refine h Ln ys h₄ tk₄ (F.fresh (hX Ln hD)) (F.notOwn (hX Ln hD)) hPl₄ ?_ (F₄.sub _ rfl) b₄
    rw [List.map_map]; exact this
set_option maxHeartbeats 1000000 in
theorem la4 {L N B Ln : Addr} {tn : Nat} {ts : Tok} {mm : List Nat} {lvs : Array Value} {Z : Flow → Shared → Prop} (G : Gd w mg mb base) (hh : A.handled = none) (hu : A.units + 64 < cLine) (hi : StrsAre lvs.toList ((mm.map full).map txt)) (hm : mm.length ≤ 100) (F : FF base (laE L) s.heap (la4V N B Ln tn ts)) (hLn : s.heap.PlainList Ln lvs)
    (h : ∀ h' tk, Grown s.heap h' → wpAny (MD w) A (execs (laB.drop 5) (laE L)) Z E { s with heap := h', toks := tk }) :
    wpAny (MD w) A (execs (laB.drop 4) (laE L)) Z E s := by
  obtain ⟨ll⟩ := lvs
  have hi : StrsAre ll ((mm.map full).map txt) := hi
  have hll : ll.length = mm.length := by rw [hi.length]; simp
  refine wpAny_execs_cons ?_
  refine wpAny_If ?_
  refine wpAny_isTrue_Compare1 ?_
  refine lcomp (base := base) (vs := _) (fun _ => false) (fun _ _ _ _ => True) [] F (cl := []) rfl (by simp) ?_ rfl ?_ rfl rfl (fun _ _ _ _ _ _ _ => trivial) ?_
  · decide +kernel
  · decide +kernel
  refine lv F rfl (itl hLn.isList hh fun I St h₂ tk₂ g₂ hI hlt W st₀ al => ?_)
  refine ⟨I, _, _, _, St, h₂, tk₂, rfl, rfl, W, by simp; omega, st₀, ?_, hI, al, g₂, ?_, ?_, ?_⟩
  · intro b hb
    rcases List.mem_cons.mp hb with rfl | hb
    · exact hlt
    · rw [List.mem_singleton.mp hb]; obtain ⟨o, ho, _⟩ := hLn.isList; exact Heap.lt_size (g₂ _ o ho)
  · intro C j v h tk E' hj hv FC gC
    obtain ⟨t', rfl⟩ := strs_get hi (by simpa using hv)
    have hj' : j < mm.length := by simpa [hll] using hj
    have eg : ((mm.map full).map txt).getD j ⟨#[]⟩ = txt (full (mm.getD j 0)) := by
      rw [List.getD_eq_getElem?_getD, List.getElem?_map, List.getElem?_map, List.getD_eq_getElem?_getD, List.getElem?_eq_getElem hj']; rfl
    rw [eg] at FC
    have e10 : ((txt (full (mm.getD j 0))).length : Int) = 10 := by rw [full_len]; rfl
    refine wpAny_tests_one ?_
    refine isTrue_or ?_
    refine isTrue_not ?_
    refine isTrue_plain ?_ ?_
    rotate_left
    · rfl
    refine Call_ ?_
    refine gB FC G (by kernel_rfl) (by boot_by_name) (by decide) ?_
    refine callWith_builtin1 ?_
    refine args_cons (lv FC rfl ?_)
    refine args_cons ?_
    refine gB FC G (by kernel_rfl) (by boot_by_name) (by decide) ?_
    refine args_nil ?_
    refine IsiPair.str_str (wpAny_truthy_bool (ifF rfl ?_))
    refine isTrue_or ?_
    refine wpAny_isTrue_Compare1 ?_
    refine Call_ ?_
    refine gB FC G (by kernel_rfl) (by boot_by_name) (by decide) ?_
    refine callWith_builtin1 (args_cons (lv FC rfl (args_nil (PySem.P.len_str (by rw [e10]; decide) (wpAny_Constant_int (ne_int (wpAny_truthy_bool ?_)))))))
    refine ifF (by rw [e10]; rfl) (isTrue_or_nil ⟨rfl, Keeps.toks⟩)
  · intro X C j v h tk E' hj hv hp FC gC hX
    cases hp
  · intro X D h₃ tk₃ ys hX hD hPl hPd g₃
    have ey : ys.toList = [] := by
      have := hPd.length
      have e : (List.range ll.toArray.size).filter (fun _ => false) = [] := List.filter_eq_nil_iff.mpr (by simp)
      rw [e] at this
      exact List.length_eq_zero_iff.mp this.symm
    obtain ⟨yl⟩ := ys
    have ey : yl = [] := ey
    subst ey
    refine List_ (args_nil (newListB (by simp) fun h₄ P₄ g₄ l₄ n₄ => ?_))
    refine ke_ne_ints (xs := []) (ys := []) (hPl.isList.at fun o e => g₄ _ o e) l₄.isList .nil .nil hu (wpAny_truthy_bool (ifF (by decide) (wpAny_execs_nil ?_)))
    exact h h₄ _ (g₃.trans g₄)
end
end Mine

-- part L4
set_option Elab.async false
set_option maxRecDepth 100000
namespace Mine
section
variable {w : World} {mg mb : Str → Option Value} {A : Around} {E : Value → Shared → Prop} {s : Shared} {base : Heap} {env : Env} {vs : List (Str × Value)}
def la5V (N B Ln T : Addr) : List (Str × Value) := [(Str.ofString "numbers", .ref N), (Str.ofString "members", .ref B), (Str.ofString "lines", .ref Ln), (Str.ofString "texts", .ref T)]
def la6V (N B Ln T O : Addr) : List (Str × Value) := [(Str.ofString "numbers", .ref N), (Str.ofString "members", .ref B), (Str.ofString "lines", .ref Ln), (Str.ofString "texts", .ref T), (Str.ofString "tops", .ref O)]
/-- line[1:] -/
theorem slice1 {value lower : PySem.Expr} {p pos : Pos} {t : Tok} {m : Nat} {Q : Value → Shared → Prop}
    (h : wpAny (MD w) A (eval value env) (fun o s₁ => o = .str (txt (full m)) t ∧ wpAny (MD w) A (eval lower env) (fun u s₂ => ∃ tu tk, u = .int 1 tu ∧ s₂ = { s with toks := tk } ∧
      ∀ t' h' tk, Grown s.heap h' → Q (.str (txt (row m)) t') { s with heap := h', toks := tk }) E s₁) E s)
    (ht : ∀ o r, letTemporaryGo value o r = pure ()) :
    wpAny (MD w) A (eval (.Subscript value (.Slice (some lower) none none p) pos) env) Q E s := by
  refine wpAny_Subscript_str_slice (wpAny_mono h (fun o s₁ h₁ => ?_) fun _ _ e => e) ht
  obtain ⟨rfl, h₁⟩ := h₁
  show wpAny _ _ (eval lower env) _ _ _
  refine wpAny_mono h₁ (fun u s₂ h₂ => ?_) fun _ _ e => e
  obtain ⟨tu, tk, rfl, rfl, h₂⟩ := h₂
  show wpAny _ _ (pure Value.none) _ _ _
  refine wpAny_pure ⟨txt (full m), t, some (1, tu), none, rfl, rfl, rfl, ?_⟩
  have hl := full_len m
  have hp : Builtin.Str.strSliceIndices (some 1) none 1 10 = [1, 2, 3, 4, 5, 6, 7, 8, 9] := by decide +kernel
  have e : sliceMade (txt (full m)) t (some (1, tu)) none none = .str (Txt.slice (txt (full m)) (some 1) none) := by
    unfold sliceMade slicePicked Txt.slice
    rw [hl]
    show (if _ then _ else _) = _
    have hne : ((Builtin.Str.strSliceIndices (some 1) none 1 10).length == 10) = false := by rw [hp]; rfl
    rw [if_neg, if_neg]
    · rfl
    · rw [hne]; simp
    · show ¬ ((((none : Option (Int × Tok)).map (·.1)).getD 1 == 1 && (Builtin.Str.strSliceIndices (some 1) none 1 10).length == 10) = true)
      rw [hne]; simp
  rw [e, slice_full]
  refine ⟨?_, ?_⟩
  · show (txt (row m)).length ≤ sizeLine
    rw [sizeLine_eq]; simp [txt, Str.length, row]
  · exact h₂ _ _ _ fun b o e => Heap.get?_push_of_some _ e
theorem FF.notList {h : Heap} {p : Addr} {items : Array Value} (F : FF base env h vs) (hl : h.IsList p items) : p ∉ own env := by
  intro ha
  obtain ⟨o, ho, _, n, hd⟩ := hl
  rcases List.mem_cons.mp ha with rfl | ha
  · obtain ⟨m, ⟨o', es, ep, ho', hd', _⟩, _⟩ := F.ns
    rw [ho] at ho'; cases ho'; rw [hd] at hd'; cases hd'
  · obtain ⟨⟨x, c⟩, hm, rfl⟩ := List.mem_map.mp ha
    obtain ⟨ov, ⟨o', ho', hd'⟩, _⟩ := F.cell x c hm
    rw [ho] at ho'; cases ho'; rw [hd] at hd'; cases hd'
set_option maxHeartbeats 1000000 in
theorem la5 {L N B Ln : Addr} {tn : Nat} {ts : Tok} {mm : List Nat} {lvs : Array Value} {Z : Flow → Shared → Prop} (G : Gd w mg mb base) (R : Room A 2) (hi : StrsAre lvs.toList ((mm.map full).map txt)) (hm : mm.length ≤ 80) (F : FF base (laE L) s.heap (la4V N B Ln tn ts)) (hLn : s.heap.PlainList Ln lvs)
    (h : ∀ T tvs h' tk, T ∉ own (laE L) → h'.PlainList T tvs → Paired (TR (T :: own (laE L)) h') tvs.toList ((mm.map row).map (·.map fold)) → FF base (laE L) h' (la5V N B Ln T) → But (own (laE L)) s.heap h' → wpAny (MD w) A (execs (laB.drop 6) (laE L)) Z E { s with heap := h', toks := tk }) :
    wpAny (MD w) A (execs (laB.drop 5) (laE L)) Z E s := by
  obtain ⟨ll⟩ := lvs
  have hi : StrsAre ll ((mm.map full).map txt) := hi
  have hll : ll.length = mm.length := by rw [hi.length]; simp
  refine wpAny_execs_cons ?_
  refine wpAny_Assign_Name ?_
  refine Call_ ?_
  refine gK (v := .ref 119) F G (by kernel_rfl) ?_
  refine callWith_def (o := ob119) rfl ?_
  refine args_cons ?_
  refine lcomp (base := base) (vs := _) (fun _ => true) (fun _ j y _ => ∃ t, y = .str (txt (row (mm.getD j 0))) t) [] F (cl := []) rfl (by simp) ?_ rfl ?_ rfl rfl (fun _ _ _ _ _ q _ => q) ?_
  · decide +kernel
  · decide +kernel
  refine lv F rfl (itl hLn.isList R.h fun I St h₂ tk₂ g₂ hI hlt W st₀ al => ?_)
  refine ⟨I, _, _, _, St, h₂, tk₂, rfl, rfl, W, by simp; omega, st₀, ?_, hI, al, g₂, ?_, ?_, ?_⟩
  · intro b hb
    rcases List.mem_cons.mp hb with rfl | hb
    · exact hlt
    · rw [List.mem_singleton.mp hb]; obtain ⟨o, ho, _⟩ := hLn.isList; exact Heap.lt_size (g₂ _ o ho)
  · intro C j v h tk E' hj hv FC gC
    exact wpAny_tests_nil ⟨rfl, Keeps.rfl'⟩
  · intro X C j v h tk E' hj hv hp FC gC hX
    obtain ⟨t', rfl⟩ := strs_get hi (by simpa using hv)
    have hj' : j < mm.length := by simpa [hll] using hj
    have eg : ((mm.map full).map txt).getD j ⟨#[]⟩ = txt (full (mm.getD j 0)) := by
      rw [List.getD_eq_getElem?_getD, List.getElem?_map, List.getElem?_map, List.getD_eq_getElem?_getD, List.getElem?_eq_getElem hj']; rfl
    rw [eg] at FC
    refine slice1 (m := mm.getD j 0) (t := t') (lv FC rfl ⟨rfl, wpAny_Constant_int ⟨_, _, rfl, rfl, fun t'' h' tk' g' => ⟨⟨t'', rfl⟩, ⟨h', tk', rfl, g'⟩⟩⟩⟩) ?_
    intro _ _; rfl
  · intro X D h₃ tk₃ ys hX hD hPl hPd g₃
    have e0 : ll.toArray.size = mm.length := by simp [hll]
    rw [e0, filter_all] at hPd
    have hys := strs_ofS hPd
    rw [range_map_getD mm 0 (fun m => txt (row m))] at hys
    obtain ⟨yl⟩ := ys
    have F₃ := F.grown g₃
    refine args_cons (lv F₃ rfl (args_nil ⟨F₃.keep _ _ (G.X 119 _ rfl), ?_⟩))
    refine c_folded (rws := mm.map row) (ls := yl) (G.keeps F₃.keep) R hPl.isList (by rw [List.map_map]; exact hys) (by simpa using hm) ?_ ?_
    · intro r hr
      obtain ⟨m, _, rfl⟩ := List.mem_map.mp hr
      exact ⟨row_len m, row_mem m⟩
    · intro T fvs h₄ tk₄ n₄ pl₄ pd₄ g₄
      have F₄ := F₃.grown g₄
      have hTo : T ∉ own (laE L) := F₃.notOwn n₄
      refine sv F₄ fun h₅ tk₅ F₅ b₅ => ?_
      refine st_eq { s with heap := h₅, toks := tk₅ } rfl ?_
      refine h T fvs h₅ tk₅ hTo (pl₄.at fun o e => b₅ _ o hTo e) (Paired.imp (fun v cs q => ?_) pd₄) (F₅.sub _ rfl) ((But.of_grown (g₃.trans g₄)).trans b₅)
      obtain ⟨p, l, e1, e2, e3, e4⟩ := q
      have hpo := F₄.notList e3
      exact ⟨p, l, e1, by simp at e2; simp [e2, hpo], e3.at fun o e => b₅ _ o hpo e, e4⟩
set_option maxHeartbeats 1000000 in
theorem la6 {L N B Ln T : Addr} {mm : List Nat} {tvs : Array Value} {Z : Flow → Shared → Prop} (G : Gd w mg mb base) (R : Room A 1) (hm : mm.length ≤ 80) (F : FF base (laE L) s.heap (la5V N B Ln T)) (hT : s.heap.PlainList T tvs) (hTp : Paired (TR (T :: own (laE L)) s.heap) tvs.toList ((mm.map row).map (·.map fold)))
    (h : ∀ O ovs h' tk, O ∉ own (laE L) → h'.PlainList O ovs → Paired (fun v m => ∃ p ls, v = .ref p ∧ p ∉ own (laE L) ∧ h'.IsList p (List.toArray ls) ∧ IntsAre ls (H m)) ovs.toList mm → FF base (laE L) h' (la6V N B Ln T O) → But (own (laE L)) s.heap h' → wpAny (MD w) A (execs (laB.drop 7) (laE L)) Z E { s with heap := h', toks := tk }) :
    wpAny (MD w) A (execs (laB.drop 6) (laE L)) Z E s := by
  obtain ⟨tl⟩ := tvs
  have htl : tl.length = mm.length := by have := hTp.length; simpa using this
  refine wpAny_execs_cons ?_
  refine wpAny_Assign_Name ?_
  refine lcomp (base := base) (vs := _) (fun _ => true) (fun X j y h => ∃ p ls, y = Value.ref p ∧ p ∉ X ∧ h.IsList p (List.toArray ls) ∧ IntsAre ls (H (mm.getD j 0))) [] F (cl := []) rfl (by simp) ?_ rfl ?_ rfl rfl ?_ ?_
  rotate_left 2
  · intro X j y h h' q b
    obtain ⟨p, ls, e1, e2, e4, e5⟩ := q
    exact ⟨p, ls, e1, e2, e4.at fun o e => b _ o e2 e, e5⟩
  rotate_left
  · decide +kernel
  · decide +kernel
  refine lv F rfl (itl hT.isList R.h fun I St h₂ tk₂ g₂ hI hlt W st₀ al => ?_)
  refine ⟨I, _, _, _, St, h₂, tk₂, rfl, rfl, W, by simp; omega, st₀, ?_, hI, al, g₂, ?_, ?_, ?_⟩
  · intro b hb
    rcases List.mem_cons.mp hb with rfl | hb
    · exact hlt
    · rw [List.mem_singleton.mp hb]; obtain ⟨o, ho, _⟩ := hT.isList; exact Heap.lt_size (g₂ _ o ho)
  · intro C j v h tk E' hj hv FC gC
    exact wpAny_tests_nil ⟨rfl, Keeps.rfl'⟩
  · intro X C j v h tk E' hj hv hp FC gC hX
    have hj' : j < mm.length := by simpa [htl] using hj
    obtain ⟨cs, ec, p, ls, rfl, hp', hls, his⟩ := paired_get hTp (by simpa using hv)
    have ecs : cs = (row (mm.getD j 0)).map fold := by
      rw [List.getElem?_map, List.getElem?_map, List.getElem?_eq_getElem hj'] at ec
      rw [List.getD_eq_getElem?_getD, List.getElem?_eq_getElem hj']
      exact (Option.some.inj ec).symm
    subst ecs
    refine Call_ ?_
    refine gK (v := .ref 124) FC G (by kernel_rfl) ?_
    refine callWith_def (o := ob124) rfl ?_
    refine args_cons (lv FC rfl (args_nil ⟨FC.keep _ _ (G.X 124 _ rfl), ?_⟩))
    refine c_heights (xs := ((row (mm.getD j 0)).map fold).map ch) (G.keeps FC.keep) R (hls.at fun o e => gC _ o e) his (by simp [row]) fun P dvs h' tk' nP plP iP g' => ?_
    rw [heights_row] at iP
    refine ⟨⟨P, dvs.toList, rfl, fun q => hX P q nP, plP.isList, iP⟩, ⟨h', tk', rfl, g'⟩⟩
  · intro X O h₃ tk₃ ys hX hD hPl hPd g₃
    have e0 : tl.toArray.size = mm.length := by simp [htl]
    rw [e0, filter_all] at hPd
    have F₃ := F.grown g₃
    have hOo : O ∉ own (laE L) := F.notOwn (hX O hD)
    refine sv F₃ fun h₄ tk₄ F₄ b₄ => ?_
    refine st_eq { s with heap := h₄, toks := tk₄ } rfl ?_
    refine h O ys h₄ tk₄ hOo (hPl.at fun o e => b₄ _ o hOo e) ?_ (F₄.sub _ rfl) ((But.of_grown g₃).trans b₄)
    have key : ∀ {is : List Nat} {yl : List Value}, Paired (fun j y => ∃ p ls, y = Value.ref p ∧ p ∉ X ∧ h₃.IsList p (List.toArray ls) ∧ IntsAre ls (H (mm.getD j 0))) is yl → Paired (fun v m => ∃ p ls, v = Value.ref p ∧ p ∉ own (laE L) ∧ h₄.IsList p (List.toArray ls) ∧ IntsAre ls (H m)) yl (is.map fun j => mm.getD j 0) := by
      intro is yl hp
      induction hp with
      | nil => exact .nil
      | cons q _ ih =>
        obtain ⟨p, ls, e1, e2, e4, e5⟩ := q
        have e3 := F₃.notList e4
        exact .cons ⟨p, ls, e1, e3, e4.at fun o e => b₄ _ o e3 e, e5⟩ ih
    have := key hPd
    rw [range_getD] at this
    exact this
end
end Mine

-- part L5
set_option Elab.async false
set_option maxRecDepth 100000
namespace Mine
def RowI (h : Heap) (v : Value) (m : Nat) : Prop := ∃ p ls, v = .ref p ∧ h.IsList p (List.toArray ls) ∧ IntsAre ls (H m)
def RowS (h : Heap) (v : Value) (m : Nat) : Prop := ∃ p ls, v = .ref p ∧ h.IsList p (List.toArray ls) ∧ StrsAre ls (((row m).map fold).map ch)
structure Facts (h : Heap) (N B Ln T O : Addr) (ms : List Nat) : Prop where
  n : ∃ l, h.IsList N (List.toArray l) ∧ IntsAre l (zs ms)
  b : ∃ l, h.IsList B (List.toArray l) ∧ IntsAre l (zs (mems ms))
  ln : ∃ l, h.IsList Ln (List.toArray l) ∧ StrsAre l (((mems ms).map full).map txt)
  t : ∃ l, h.IsList T (List.toArray l) ∧ Paired (RowS h) l (mems ms)
  o : ∃ l, h.IsList O (List.toArray l) ∧ Paired (RowI h) l (mems ms)
theorem but_drop {Ms : List Addr} {I : Addr} {h₁ h₂ h : Heap} (g : Grown h₁ h₂) (hI : h₁.get? I = none) (b : But (Ms ++ [I]) h₂ h) : But Ms h₁ h := fun x o nx e => b x o (fun q => by
  rcases List.mem_append.mp q with q | q
  · exact nx q
  · rw [List.mem_singleton.mp q, hI] at e; cases e) (g x o e)
section
variable {w : World} {mg mb : Str → Option Value} {A : Around} {E : Value → Shared → Prop} {s : Shared} {base : Heap} {env : Env} {vs : List (Str × Value)} {N B Ln T O L : Addr} {ms : List Nat}
theorem Facts.to {h h' : Heap} (F : FF base env h vs) (b : But (own env) h h') (x : Facts h N B Ln T O ms) : Facts h' N B Ln T O ms := by
  have mv : ∀ {p items}, h.IsList p items → h'.IsList p items := fun hl => hl.at fun o e => b _ o (F.notList hl) e
  obtain ⟨⟨l1, a1, i1⟩, ⟨l2, a2, i2⟩, ⟨l3, a3, i3⟩, ⟨l4, a4, i4⟩, ⟨l5, a5, i5⟩⟩ := x
  exact ⟨⟨l1, mv a1, i1⟩, ⟨l2, mv a2, i2⟩, ⟨l3, mv a3, i3⟩, ⟨l4, mv a4, Paired.imp (fun _ _ ⟨p, ls, e1, e2, e3⟩ => ⟨p, ls, e1, mv e2, e3⟩) i4⟩, ⟨l5, mv a5, Paired.imp (fun _ _ ⟨p, ls, e1, e2, e3⟩ => ⟨p, ls, e1, mv e2, e3⟩) i5⟩⟩
/-- T[1:], T any text, temporary or not -/
theorem slice1T {value lower : PySem.Expr} {p pos : Pos} {t : Tok} {m : Nat} {Q : Value → Shared → Prop}
    (h : wpAny (MD w) A (eval value env) (fun o s₁ => o = .str (txt (full m)) t ∧ wpAny (MD w) A (eval lower env) (fun u s₂ => ∃ tu tk, u = .int 1 tu ∧ s₂ = { s with toks := tk } ∧
      ∀ t' h' tk, Grown s.heap h' → Q (.str (txt (row m)) t') { s with heap := h', toks := tk }) E s₁) E s) :
    wpAny (MD w) A (eval (.Subscript value (.Slice (some lower) none none p) pos) env) Q E s := by
  refine Subscript_ (wpAny_mono h (fun o s₁ h₁ => ?_) fun _ _ e => e)
  obtain ⟨rfl, h₁⟩ := h₁
  refine wpAny_Slice ?_
  show wpAny _ _ (eval lower env) _ _ _
  refine wpAny_mono h₁ (fun u s₂ h₂ => ?_) fun _ _ e => e
  obtain ⟨tu, tk, rfl, rfl, h₂⟩ := h₂
  show wpAny _ _ (pure Value.none) _ _ _
  refine wpAny_pure ?_
  show wpAny _ _ (pure Value.none) _ _ _
  refine wpAny_pure ?_
  refine tail_any (ops := [.ref s.heap.objs.size, .str (txt (full m)) t]) (typeIs_str _ _ _) PySem.F.slot_str_getitem.lookup (wpAny_getItem_str_slice (l := some (1, tu)) (u := none) (st := none) ⟨_, Heap.get?_push_size _ rfl, rfl, rfl⟩ rfl ?_) ?_
  rotate_left
  · with_unfolding_all rfl
  have hl := full_len m
  have hp : Builtin.Str.strSliceIndices (some 1) none 1 10 = [1, 2, 3, 4, 5, 6, 7, 8, 9] := by decide +kernel
  have e : sliceMade (txt (full m)) t (some (1, tu)) none none = .str (Txt.slice (txt (full m)) (some 1) none) := by
    unfold sliceMade slicePicked Txt.slice
    rw [hl]
    show (if _ then _ else _) = _
    have hne : ((Builtin.Str.strSliceIndices (some 1) none 1 10).length == 10) = false := by rw [hp]; rfl
    rw [if_neg, if_neg]
    · rfl
    · rw [hne]; simp
    · show ¬ ((((none : Option (Int × Tok)).map (·.1)).getD 1 == 1 && (Builtin.Str.strSliceIndices (some 1) none 1 10).length == 10) = true)
      rw [hne]; simp
  rw [e, slice_full]
  refine ⟨?_, ?_⟩
  · show (txt (row m)).length ≤ sizeLine
    rw [sizeLine_eq]; simp [txt, Str.length, row]
  · exact h₂ _ _ _ fun b o e => Heap.get?_push_of_some _ e
/-- tops[E] -/
theorem top_item {value slice : PySem.Expr} {h : Heap} (X : Facts h N B Ln T O ms) {k : Nat} {u : Tok} (hk : k < (mems ms).length) (hk2 : k < 1000) {Q : Value → Shared → Prop} (hs : s.heap = h)
    (hq : ∀ p ls, h.IsList p (List.toArray ls) → IntsAre ls (H ((mems ms).getD k 0)) → Q (.ref p) s) (hsub : subscripted slice false (.ref O) (.int (k : Int) u) = operate [.ref O, .int (k : Int) u] (getItem (.ref O) (.int (k : Int) u))) :
    wpAny (MD w) A (subscriptTail value slice (.ref O) (.int (k : Int) u)) Q E s := by
  obtain ⟨l, hl, hp⟩ := X.o
  have hll := hp.length
  obtain ⟨v, hv⟩ : ∃ v, l[k]? = some v := ⟨l[k]'(by omega), List.getElem?_eq_getElem _⟩
  obtain ⟨m, em, p, ls, rfl, hpl, hpi⟩ := paired_get hp hv
  have e : (mems ms).getD k 0 = m := by rw [List.getD_eq_getElem?_getD, em]; rfl
  subst hs
  exact list_item (M := MD w) hl (by omega) (by omega) (by simpa using hv) (hq p ls hpl (by rw [e]; exact hpi)) hsub
set_option maxHeartbeats 1000000 in
theorem la7 {Z : Flow → Shared → Prop} (G : Gd w mg mb base) (R : Room A 1) (hms : ms.length ≤ 4) (F : FF base (laE L) s.heap (la6V N B Ln T O)) (X : Facts s.heap N B Ln T O ms)
    (h : ∀ h' tk, Facts h' N B Ln T O ms → FF base (laE L) h' (la6V N B Ln T O) → wpAny (MD w) A (execs (laB.drop 8) (laE L)) Z (fun _ _ => False) { s with heap := h', toks := tk }) :
    wpAny (MD w) A (execs (laB.drop 7) (laE L)) Z (fun _ _ => False) s := by
  obtain ⟨bl, hbl, hbi⟩ := X.b
  have hbn : bl.length = (mems ms).length := by rw [hbi.length]; simp [zs]
  have hmm := mems_len ms
  refine wpAny_execs_cons ?_
  refine wpAny_For ?_
  refine Call_ ?_
  refine gB F G (by kernel_rfl) (by boot_by_name) (by decide) ?_
  refine PyProof.Rows.callWith_type1 ?_
  refine args_cons ?_
  refine Call_ ?_
  refine gB F G (by kernel_rfl) (by boot_by_name) (by decide) ?_
  refine callWith_builtin1 (args_cons (lv F rfl (args_nil (len_list hbl (by simp; omega) (args_nil ?_)))))
  refine rng1 (n := bl.toArray.size) (by simp; omega) R.h fun I St h₂ tk₂ g₂ hI hlt W st₀ al => ?_
  have F₂ := F.grown g₂
  have hIo : ∀ a ∈ own (laE L), a ∉ [I] := fun a ha q => F.notOwn hI (List.mem_singleton.mp q ▸ ha)
  refine for_ff (own (laE L)) (fun i h => FF base (laE L) h (la6V N B Ln T O)) W hIo ?_ st₀ F₂ ?_ ?_
  · intro i h h' f bb
    exact f.frame bb (fun a ha => by rw [List.mem_singleton.mp ha]; exact F.notOwn hI) (fun a ha => by rw [List.mem_singleton.mp ha]; exact F.fresh hI)
  · rintro i v h₃ tk hi ⟨tv, rfl⟩ f bb
    have hi' : i < (mems ms).length := by simpa [hbn] using hi
    refine wpAny_assign_Name (sv f fun h₄ tk₄ F₄ b₄ => ?_)
    refine st_eq { s with heap := h₄, toks := tk₄ } rfl ?_
    have X₄ : Facts h₄ N B Ln T O ms := X.to F ((but_drop g₂ hI bb).trans b₄)
    obtain ⟨l4, hl4, hp4⟩ := X₄.t
    obtain ⟨l3, hl3, hi3⟩ := X₄.ln
    obtain ⟨l2, hl2, hi2⟩ := X₄.b
    obtain ⟨v4, hv4⟩ : ∃ v, l4[i]? = some v := ⟨l4[i]'(by have := hp4.length; omega), List.getElem?_eq_getElem _⟩
    obtain ⟨m, em, p4, ls4, rfl, hpl4, hpi4⟩ := paired_get hp4 hv4
    have e : (mems ms).getD i 0 = m := by rw [List.getD_eq_getElem?_getD, em]; rfl
    obtain ⟨v3, hv3⟩ : ∃ v, l3[i]? = some v := ⟨l3[i]'(by have := hi3.length; simp at this; omega), List.getElem?_eq_getElem _⟩
    obtain ⟨t3, rfl⟩ := strs_get hi3 hv3
    have e3 : (((mems ms).map full).map txt).getD i ⟨#[]⟩ = txt (full m) := by
      rw [List.getD_eq_getElem?_getD, List.getElem?_map, List.getElem?_map, em]; rfl
    rw [e3] at hv3
    obtain ⟨v2, hv2⟩ : ∃ v, l2[i]? = some v := ⟨l2[i]'(by have := hi2.length; simp [zs] at this; omega), List.getElem?_eq_getElem _⟩
    obtain ⟨t2, rfl⟩ := ints_get hi2 hv2
    rw [zs_getD, e] at hv2
    refine wpAny_execs_cons ?_
    refine wpAny_If ?_
    refine isTrue_or ?_
    refine wpAny_isTrue_Compare1 ?_
    refine UnaryOp_ (wpAny_Constant_int (neg_int ?_))
    refine Subscript_ ?_
    refine lv F₄ rfl (lv F₄ rfl ?_)
    refine top_item (h := h₄) X₄ hi' (by omega) rfl (fun p ls hpl hpi => ?_) (by rfl)
    refine in_list_ints hpl hpi (wpAny_truthy_bool (ifF (H_nonneg _) ?_))
    refine isTrue_or ?_
    refine isTrue_not ?_
    refine isTrue_plain ?_ ?_
    rotate_left
    · rfl
    refine Call_ ?_
    refine gK (v := .ref 131) F₄ G (by kernel_rfl) ?_
    refine callWith_def (o := ob131) rfl ?_
    refine args_cons ?_
    refine slice1T (m := m) (t := t3) ?_
    refine Subscript_ ?_
    refine lv F₄ rfl (lv F₄ rfl ?_)
    refine list_item (M := MD w) hl3 (by omega) (by omega) (by simpa using hv3) ?_ (by rfl)
    refine ⟨rfl, wpAny_Constant_int ⟨_, _, rfl, rfl, fun t₅ h₅ tk₅ g₅ => ?_⟩⟩
    refine st_eq { s with heap := h₅, toks := tk₅ } rfl ?_
    have F₅ := F₄.grown g₅
    refine args_cons ?_
    refine Subscript_ ?_
    refine lv F₅ rfl (lv F₅ rfl ?_)
    refine list_item (M := MD w) (hl4.at fun o e => g₅ _ o e) (by omega) (by omega) (by simpa using hv4) ?_ (by rfl)
    refine args_cons ?_
    refine Subscript_ ?_
    refine lv F₅ rfl (lv F₅ rfl ?_)
    refine list_item (M := MD w) (hl2.at fun o e => g₅ _ o e) (by omega) (by omega) (by simpa using hv2) ?_ (by rfl)
    refine args_nil ⟨F₅.keep _ _ (G.X 131 _ rfl), ?_⟩
    refine c_fits (row := row m) (sg := (row m).map fold) (mode := (m : Int)) (ls := ls4) (G.keeps F₅.keep) R (hpl4.at fun o e => g₅ _ o e) hpi4 (row_len m) (by simp [row_len]) fun h₆ tk₆ g₆ => ?_
    rw [fits_row]
    refine wpAny_truthy_bool (ifF rfl (isTrue_or_nil (ifF rfl (wpAny_execs_nil (wpAny_execs_nil ?_)))))
    exact ⟨h₆, _, rfl, (F₅.grown g₆).sub _ rfl, b₄.trans ((But.of_grown g₅).trans (But.of_grown g₆))⟩
  · intro h₃ tk₃ f bb
    refine wpAny_execs_nil ?_
    exact h h₃ _ (X.to F (but_drop g₂ hI bb)) f
end
end Mine

-- part L6
set_option Elab.async false
set_option maxRecDepth 100000
namespace Mine
theorem mems_lo {ms : List Nat} {i : Nat} (h : i < ms.length) : (mems ms).getD i 0 = ms.getD i 0 := by
  unfold mems
  rw [List.getD_eq_getElem?_getD, List.getElem?_append_left h, ← List.getD_eq_getElem?_getD]
theorem mems_hi {ms : List Nat} {j : Nat} (h : j < ms.length) : (mems ms).getD (ms.length + j) 0 = shared ms (j + 1) := by
  unfold mems
  rw [List.getD_eq_getElem?_getD, List.getElem?_append_right (by omega), ← List.getD_eq_getElem?_getD]
  rw [show ms.length + j - ms.length = j by omega, getD_range _ _ h]
theorem above_empty (a b : Nat) : decide ((((List.range 9).filter fun k => decide ((H b).getD k 0 < (H a).getD k 0)).map fun k => ((k : Nat) : Int)) = []) = within (a : Int) (b : Int) := by
  rw [within_H, Bool.eq_iff_iff, decide_eq_true_eq, List.map_eq_nil_iff, List.filter_eq_nil_iff, List.all_eq_true]
  constructor
  · intro h k hk; have := h k hk; simpa using this
  · intro h k hk; have := h k hk; simpa using this
section
variable {w : World} {mg mb : Str → Option Value} {A : Around} {E : Value → Shared → Prop} {s : Shared} {base : Heap} {env : Env} {vs : List (Str × Value)} {N B Ln T O L : Addr} {ms : List Nat}
def laIn : List Stmt := forBody ((forBody (laB.getD 8 (.Pass nowhere))).getD 0 (.Pass nowhere))
/-- numbers[K] -/
theorem num_item {value slice : PySem.Expr} {h : Heap} (X : Facts h N B Ln T O ms) {k : Nat} {u : Tok} (hk : k < ms.length) (hk2 : k < 1000) {Q : Value → Shared → Prop} (hs : s.heap = h)
    (hq : ∀ t, Q (.int ((ms.getD k 0 : Nat) : Int) t) s) (hsub : subscripted slice false (.ref N) (.int (k : Int) u) = operate [.ref N, .int (k : Int) u] (getItem (.ref N) (.int (k : Int) u))) :
    wpAny (MD w) A (subscriptTail value slice (.ref N) (.int (k : Int) u)) Q E s := by
  obtain ⟨l, hl, hi⟩ := X.n
  have hll : l.length = ms.length := by rw [hi.length]; simp [zs]
  obtain ⟨v, hv⟩ : ∃ v, l[k]? = some v := ⟨l[k]'(by omega), List.getElem?_eq_getElem _⟩
  obtain ⟨t, rfl⟩ := ints_get hi hv
  rw [zs_getD] at hv
  subst hs
  exact list_item (M := MD w) hl (by omega) (by omega) (by simpa using hv) (hq t) hsub
def ijV (N O : Addr) (i j : Nat) (ti tj : Tok) : List (Str × Value) := [(Str.ofString "numbers", .ref N), (Str.ofString "tops", .ref O), (Str.ofString "i", .int (i : Int) ti), (Str.ofString "j", .int (j : Int) tj)]
set_option maxHeartbeats 1000000 in
theorem la8in {i j : Nat} {ti tj : Tok} {Z : Flow → Shared → Prop} (G : Gd w mg mb base) (R : Room A 1) (hu : A.units + 64 < cLine) (hms : ms.length ≤ 4) (hi : i < ms.length) (hj : j < ms.length) (F : FF base (laE L) s.heap (ijV N O i j ti tj)) (X : Facts s.heap N B Ln T O ms)
    (h : ∀ h' tk, FF base (laE L) h' (ijV N O i j ti tj) → But (own (laE L)) s.heap h' → Z .next { s with heap := h', toks := tk }) :
    wpAny (MD w) A (execs laIn (laE L)) Z E s := by
  have hmm := mems_len ms
  refine wpAny_execs_cons ?_
  refine lassign (base := base) (vs := _) (fun k => decide ((H (ms.getD j 0)).getD k 0 < (H (ms.getD i 0)).getD k 0)) (fun _ k y _ => ∃ t, y = .int (k : Int) t) [(Str.ofString "i", .int (i : Int) ti), (Str.ofString "j", .int (j : Int) tj), (Str.ofString "tops", .ref O)] F (cl := [(Str.ofString "tops", L + 2), (Str.ofString "j", L + 4), (Str.ofString "i", L + 3)]) rfl rfl ?_ ?_ rfl ?_ rfl rfl (.inl rfl) (fun _ _ _ _ _ q _ => q) ?_
  · intro q hq
    have e : (laE L).cells = [(Str.ofString "j", L + 4), (Str.ofString "i", L + 3), (Str.ofString "tops", L + 2), (Str.ofString "numbers", L + 1)] := rfl
    rw [e]
    simp only [List.mem_cons, List.not_mem_nil, or_false] at hq ⊢
    rcases hq with rfl | rfl | rfl
    · exact .inr (.inr (.inl rfl))
    · exact .inl rfl
    · exact .inr (.inl rfl)
  · decide +kernel
  · decide +kernel
  refine Call_ ?_
  refine gB F G (by kernel_rfl) (by boot_by_name) (by decide) ?_
  refine PyProof.Rows.callWith_type1 ?_
  refine args_cons (wpAny_Constant_int (args_nil (rng1 (n := 9) (by decide) R.h fun I St h₂ tk₂ g₂ hI hlt W st₀ al => ?_)))
  refine ⟨I, _, _, _, St, h₂, tk₂, rfl, rfl, W, by decide, st₀, ?_, hI, al, g₂, ?_, ?_, ?_⟩
  · intro b hb; rw [List.mem_singleton.mp hb]; exact hlt
  · intro C k v h tk E' hk hv FC gC
    obtain ⟨tv, rfl⟩ := hv
    have XC : Facts h N B Ln T O ms := X.to F (But.of_grown gC)
    have gi : ∀ {m : Nat} {ls : List Value}, IntsAre ls (H m) → ∃ t, ls.toArray[((k : Nat) : Int).toNat]? = some (.int ((H m).getD k 0) t) := fun {m ls} hpi => by
      have hll : ls.length = 9 := by rw [hpi.length, H_len]
      obtain ⟨v, hv⟩ : ∃ v, ls[k]? = some v := ⟨ls[k]'(by omega), List.getElem?_eq_getElem _⟩
      obtain ⟨t, rfl⟩ := ints_get hpi hv
      exact ⟨t, by rw [← hv]; simp⟩
    refine wpAny_tests_one ?_
    refine wpAny_isTrue_Compare1 ?_
    refine Subscript_ ?_
    refine Subscript_ ?_
    refine lv FC rfl (lv FC rfl ?_)
    refine top_item (h := h) XC (k := i) (by omega) (by omega) rfl (fun p ls hpl hpi => ?_) (by rfl)
    rw [mems_lo hi] at hpi
    obtain ⟨t1, hx1⟩ := gi hpi
    refine lv FC rfl ?_
    refine list_item (M := MD w) hpl (by omega) (by omega) hx1 ?_ (by rfl)
    refine Subscript_ ?_
    refine Subscript_ ?_
    refine lv FC rfl (lv FC rfl ?_)
    refine top_item (h := h) XC (k := j) (by omega) (by omega) rfl (fun p' ls' hpl' hpi' => ?_) (by rfl)
    rw [mems_lo hj] at hpi'
    obtain ⟨t2, hx2⟩ := gi hpi'
    refine lv FC rfl ?_
    refine list_item (M := MD w) hpl' (by omega) (by omega) hx2 ?_ (by rfl)
    exact gt_int (wpAny_truthy_bool ⟨rfl, Keeps.rfl'⟩)
  · intro X' C k v h tk E' hk hv hp FC gC hX
    obtain ⟨tv, rfl⟩ := hv
    exact lv FC rfl ⟨⟨tv, rfl⟩, Keeps.rfl'⟩
  · intro X' D h₃ h₄ tk₄ ys hX hD hPl hPd g₃ b₃ hPl₄ F₄ b₄
    have hyi := ints_of hPd
    obtain ⟨yl⟩ := ys
    have X₄ : Facts h₄ N B Ln T O ms := X.to F b₄
    refine wpAny_execs_cons ?_
    refine wpAny_If ?_
    refine wpAny_isTrue_Compare1 ?_
    refine wpAny_Compare1 ?_
    refine lv F₄ rfl ?_
    refine List_ (args_nil (newListB (by simp) fun h₅ P₅ g₅ l₅ n₅ => ?_))
    refine ke_eq_ints (hPl₄.isList.at fun o e => g₅ _ o e) l₅.isList hyi .nil hu ?_
    have F₅ := F₄.grown g₅
    have X₅ : Facts h₅ N B Ln T O ms := X₄.to F₄ (But.of_grown g₅)
    refine Call_ ?_
    refine gK (v := .ref 138) F₅ G (by kernel_rfl) ?_
    refine callWith_def (o := ob138) rfl ?_
    refine args_cons ?_
    refine Subscript_ ?_
    refine lv F₅ rfl (lv F₅ rfl ?_)
    refine num_item (h := h₅) X₅ hi (by omega) rfl (fun t1 => ?_) (by rfl)
    refine args_cons ?_
    refine Subscript_ ?_
    refine lv F₅ rfl (lv F₅ rfl ?_)
    refine num_item (h := h₅) X₅ hj (by omega) rfl (fun t2 => ?_) (by rfl)
    refine args_nil ⟨F₅.keep _ _ (G.X 138 _ rfl), ?_⟩
    refine c_within (G.keeps F₅.keep) R fun h₆ tk₆ g₆ => ?_
    refine ne_bool (wpAny_truthy_bool (ifF ?_ (wpAny_execs_nil (wpAny_execs_nil ?_))))
    · rw [above_empty]; cases within _ _ <;> rfl
    · exact h h₆ _ ((F₅.grown g₆).sub _ rfl) (b₄.trans ((But.of_grown g₅).trans (But.of_grown g₆)))
def noV (N O : Addr) : List (Str × Value) := [(Str.ofString "numbers", .ref N), (Str.ofString "tops", .ref O)]
def noiV (N O : Addr) (i : Nat) (ti : Tok) : List (Str × Value) := [(Str.ofString "numbers", .ref N), (Str.ofString "tops", .ref O), (Str.ofString "i", .int (i : Int) ti)]
set_option maxHeartbeats 1000000 in
theorem la8 {Z : Flow → Shared → Prop} (G : Gd w mg mb base) (R : Room A 1) (hu : A.units + 64 < cLine) (hms : ms.length ≤ 4) (F : FF base (laE L) s.heap (noV N O)) (X : Facts s.heap N B Ln T O ms)
    (h : ∀ h' tk, Facts h' N B Ln T O ms → FF base (laE L) h' (noV N O) → wpAny (MD w) A (execs (laB.drop 9) (laE L)) Z (fun _ _ => False) { s with heap := h', toks := tk }) :
    wpAny (MD w) A (execs (laB.drop 8) (laE L)) Z (fun _ _ => False) s := by
  obtain ⟨nl, hnl, hni⟩ := X.n
  have hnn : nl.length = ms.length := by rw [hni.length]; simp [zs]
  refine wpAny_execs_cons ?_
  refine wpAny_For ?_
  refine Call_ ?_
  refine gB F G (by kernel_rfl) (by boot_by_name) (by decide) ?_
  refine PyProof.Rows.callWith_type1 ?_
  refine args_cons ?_
  refine Call_ ?_
  refine gB F G (by kernel_rfl) (by boot_by_name) (by decide) ?_
  refine callWith_builtin1 (args_cons (lv F rfl (args_nil (len_list hnl (by simp; omega) (args_nil ?_)))))
  refine rng1 (n := nl.toArray.size) (by simp; omega) R.h fun I St h₂ tk₂ g₂ hI hlt W st₀ al => ?_
  have F₂ := F.grown g₂
  have hIo : ∀ a ∈ own (laE L), a ∉ [I] := fun a ha q => F.notOwn hI (List.mem_singleton.mp q ▸ ha)
  refine for_ff (own (laE L)) (fun i h => FF base (laE L) h (noV N O)) W hIo ?_ st₀ F₂ ?_ ?_
  · intro i h h' f bb
    exact f.frame bb (fun a ha => by rw [List.mem_singleton.mp ha]; exact F.notOwn hI) (fun a ha => by rw [List.mem_singleton.mp ha]; exact F.fresh hI)
  · rintro i v h₃ tk hi ⟨ti, rfl⟩ f bb
    have hi' : i < ms.length := by simpa [hnn] using hi
    refine wpAny_assign_Name (sv f fun h₄ tk₄ F₄' b₄ => ?_)
    refine st_eq { s with heap := h₄, toks := tk₄ } rfl ?_
    have X₄ : Facts h₄ N B Ln T O ms := X.to F ((but_drop g₂ hI bb).trans b₄)
    have F₄ : FF base (laE L) h₄ (noiV N O i ti) := F₄'.sub _ rfl
    obtain ⟨nl', hnl', hni'⟩ := X₄.n
    have hnn' : nl'.length = ms.length := by rw [hni'.length]; simp [zs]
    refine wpAny_execs_cons ?_
    refine wpAny_For ?_
    refine Call_ ?_
    refine gB F₄ G (by kernel_rfl) (by boot_by_name) (by decide) ?_
    refine PyProof.Rows.callWith_type1 ?_
    refine args_cons ?_
    refine Call_ ?_
    refine gB F₄ G (by kernel_rfl) (by boot_by_name) (by decide) ?_
    refine callWith_builtin1 (args_cons (lv F₄ rfl (args_nil (len_list hnl' (by simp; omega) (args_nil ?_)))))
    refine rng1 (n := nl'.toArray.size) (by simp; omega) R.h fun I' St' h₅ tk₅ g₅ hI' hlt' W' st₅ al' => ?_
    have F₅ := F₄.grown g₅
    have hIo' : ∀ a ∈ own (laE L), a ∉ [I'] := fun a ha q => F₄.notOwn hI' (List.mem_singleton.mp q ▸ ha)
    refine for_ff (own (laE L)) (fun j h => FF base (laE L) h (noiV N O i ti)) W' hIo' ?_ st₅ F₅ ?_ ?_
    · intro j h h' f bb
      exact f.frame bb (fun a ha => by rw [List.mem_singleton.mp ha]; exact F₄.notOwn hI') (fun a ha => by rw [List.mem_singleton.mp ha]; exact F₄.fresh hI')
    · rintro j v h₆ tk hj ⟨tj, rfl⟩ f bb'
      have hj' : j < ms.length := by simpa [hnn'] using hj
      refine wpAny_assign_Name (sv f fun h₇ tk₇ F₇ b₇ => ?_)
      refine st_eq { s with heap := h₇, toks := tk₇ } rfl ?_
      have X₇ : Facts h₇ N B Ln T O ms := X₄.to F₄ ((but_drop g₅ hI' bb').trans b₇)
      refine la8in (base := base) (ti := ti) (tj := tj) G R hu hms hi' hj' (F₇.sub _ rfl) X₇ fun h₈ tk₈ F₈ b₈ => ?_
      exact ⟨h₈, tk₈, rfl, F₈.sub _ rfl, b₇.trans b₈⟩
    · intro h₆ tk₆ f bb'
      refine wpAny_execs_nil (wpAny_execs_nil ?_)
      exact ⟨h₆, _, rfl, f.sub _ rfl, b₄.trans (but_drop g₅ hI' bb')⟩
  · intro h₃ tk₃ f bb
    refine wpAny_execs_nil ?_
    exact h h₃ _ (X.to F (but_drop g₂ hI bb)) f
end
end Mine

-- part L7
set_option Elab.async false
set_option maxRecDepth 100000
namespace Mine
theorem due_list {ms : List Nat} {c : Nat} {ds : List Int} (h1 : 1 ≤ c) (h2 : c ≤ ms.length) (hl : ds.length = 9) (h : ∀ k < 9, DueAt (zs ms) (ms.map H) c k (ds.getD k 0)) : ds = H (shared ms c) := by
  apply List.ext_getElem
  · rw [hl, H_len]
  · intro k hk1 hk2
    have := due_eq h1 h2 (by omega) (h k (by omega))
    rw [List.getD_eq_getElem?_getD, List.getElem?_eq_getElem hk1, List.getD_eq_getElem?_getD, List.getElem?_eq_getElem hk2] at this
    exact this
theorem paired_take {α β : Type} {F : α → β → Prop} : ∀ {a : List α} {b : List β} (k : Nat), Paired F a b → Paired F (a.take k) (b.take k)
  | _, _, 0, _ => by rw [List.take_zero, List.take_zero]; exact .nil
  | _, _, k + 1, .nil => by rw [List.take_nil, List.take_nil]; exact .nil
  | _, _, k + 1, .cons h r => by rw [List.take_succ_cons, List.take_succ_cons]; exact .cons h (paired_take k r)
theorem paired_map {α β γ : Type} {F : α → γ → Prop} {g : β → γ} : ∀ {a : List α} {b : List β}, Paired (fun x y => F x (g y)) a b → Paired F a (b.map g)
  | _, _, .nil => .nil
  | _, _, .cons h r => .cons h (paired_map r)
section
variable {w : World} {mg mb : Str → Option Value} {A : Around} {E : Value → Shared → Prop} {s : Shared} {base : Heap} {env : Env} {vs : List (Str × Value)} {N B Ln T O L : Addr} {ms : List Nat}
set_option maxHeartbeats 1000000 in
theorem la9in {j : Nat} {tl : Tok} {Z : Flow → Shared → Prop} (G : Gd w mg mb base) (R : Room A 1) (hu : A.units + 64 < cLine) (hms : ms.length ≤ 4) (hj : j < ms.length) (F : FF base (laE L) s.heap [(Str.ofString "numbers", .ref N), (Str.ofString "tops", .ref O), (Str.ofString "least", .int ((j : Int) + 1) tl)]) (X : Facts s.heap N B Ln T O ms)
    (h : ∀ h' tk, Grown s.heap h' → Z .next { s with heap := h', toks := tk }) :
    wpAny (MD w) A (execs (forBody (laB.getD 9 (.Pass nowhere))) (laE L)) Z E s := by
  have hmm := mems_len ms
  obtain ⟨nl, hnl, hni⟩ := X.n
  have hnn : nl.length = ms.length := by rw [hni.length]; simp [zs]
  obtain ⟨ol, hol, hop⟩ := X.o
  have hon : ol.length = (mems ms).length := hop.length
  have ei : ((nl.toArray.size : Nat) : Int) + ((j : Int) + 1) - 1 = ((ms.length + j : Nat) : Int) := by simp [hnn]; omega
  refine wpAny_execs_cons ?_
  refine wpAny_If ?_
  refine wpAny_isTrue_Compare1 ?_
  refine Subscript_ ?_
  refine lv F rfl ?_
  refine wpAny_BinOp ?_
  refine wpAny_BinOp ?_
  refine Call_ ?_
  refine gB F G (by kernel_rfl) (by boot_by_name) (by decide) ?_
  refine callWith_builtin1 (args_cons (lv F rfl (args_nil (len_list hnl (by simp; omega) ?_))))
  refine lv F rfl (add_int (wpAny_Constant_int (sub_int ?_)))
  rw [ei]
  refine top_item (h := s.heap) X (k := ms.length + j) (by omega) (by omega) rfl (fun p ls hpl hpi => ?_) (by rfl)
  rw [mems_hi hj] at hpi
  refine Call_ ?_
  refine gK (v := .ref 148) F G (by kernel_rfl) ?_
  refine callWith_def (o := ob148) rfl ?_
  refine args_cons (lv F rfl ?_)
  refine args_cons ?_
  refine slice_take (a := O) (xs := ol) (k := ms.length) (hh := s.heap) (Grown.refl _) ?_ ?_
  rotate_left
  · intro _ _; rfl
  refine lv F rfl ⟨rfl, ?_⟩
  refine Call_ ?_
  refine gB F G (by kernel_rfl) (by boot_by_name) (by decide) ?_
  refine callWith_builtin1 (args_cons (lv F rfl (args_nil (len_list hnl (by simp; omega) ⟨_, _, congrArg (Value.int · _) (by simp [hnn]), rfl, hol, by omega, fun P₂ h₂ tk₂ n₂ l₂ g₂ => ?_⟩))))
  have F₂ := F.grown g₂
  refine st_eq { s with heap := h₂, toks := tk₂ } rfl ?_
  refine args_cons (lv F₂ rfl (args_nil ⟨F₂.keep _ _ (G.X 148 _ rfl), ?_⟩))
  have ec : ((j : Int) + 1) = ((j + 1 : Nat) : Int) := by omega
  rw [ec]
  have hM : Mat h₂ P₂ (ms.map H) := by
    refine ⟨ol.take ms.length, l₂.isList, ?_⟩
    have hp := paired_take ms.length hop
    have e : (mems ms).take ms.length = ms := by unfold mems; rw [List.take_left]
    rw [e] at hp
    exact paired_map (Paired.imp (fun v m q => let ⟨p, ls, e1, e2, e3⟩ := q; ⟨p, ls, e1, e2.at fun o e => g₂ _ o e, e3⟩) hp)
  refine c_due (ns := zs ms) (ls := nl) (M := ms.map H) (c := j + 1) (G.keeps F₂.keep) R (hnl.at fun o e => g₂ _ o e) hni (by simp [zs]; omega) hM (by simp; omega) ?_ (by omega) (by simp; omega) fun P₃ ds dvs h₃ tk₃ n₃ pl₃ i₃ dl₃ dd₃ g₃ => ?_
  · intro r hr
    obtain ⟨m, _, rfl⟩ := List.mem_map.mp hr
    rw [H_len]; exact Nat.le_refl _
  have eds := due_list (by omega) (by omega) dl₃ dd₃
  obtain ⟨dl⟩ := dvs
  refine ke_ne_ints ((hpl.at fun o e => g₂ _ o e).at fun o e => g₃ _ o e) pl₃.isList hpi i₃ hu (wpAny_truthy_bool (ifF ?_ (wpAny_execs_nil (wpAny_execs_nil ?_))))
  · rw [eds]; simp
  · exact h h₃ _ (g₂.trans g₃)
set_option maxHeartbeats 1000000 in
theorem la9 {Z : Flow → Shared → Prop} (G : Gd w mg mb base) (R : Room A 1) (hu : A.units + 64 < cLine) (hms : ms.length ≤ 4) (F : FF base (laE L) s.heap (noV N O)) (X : Facts s.heap N B Ln T O ms)
    (h : ∀ h' tk, Grown base h' → Z (.ret (.bool true)) { s with heap := h', toks := tk }) :
    wpAny (MD w) A (execs (laB.drop 9) (laE L)) Z (fun _ _ => False) s := by
  obtain ⟨nl, hnl, hni⟩ := X.n
  have hnn : nl.length = ms.length := by rw [hni.length]; simp [zs]
  refine wpAny_execs_cons ?_
  refine wpAny_For ?_
  refine Call_ ?_
  refine gB F G (by kernel_rfl) (by boot_by_name) (by decide) ?_
  refine PyProof.Rows.callWith_type1 ?_
  refine args_cons (wpAny_Constant_int ?_)
  refine args_cons ?_
  refine wpAny_BinOp ?_
  refine Call_ ?_
  refine gB F G (by kernel_rfl) (by boot_by_name) (by decide) ?_
  refine callWith_builtin1 (args_cons (lv F rfl (args_nil (len_list hnl (by simp; omega) (wpAny_Constant_int (add_int (args_nil ?_)))))))
  refine rng2 (n := nl.toArray.size) (by simp; omega) R.h fun I St h₂ tk₂ g₂ hI hlt W st₀ al => ?_
  have F₂ := F.grown g₂
  have hIo : ∀ a ∈ own (laE L), a ∉ [I] := fun a ha q => F.notOwn hI (List.mem_singleton.mp q ▸ ha)
  refine for_ff (own (laE L)) (fun i h => FF base (laE L) h (noV N O)) W hIo ?_ st₀ F₂ ?_ ?_
  · intro i h h' f bb
    exact f.frame bb (fun a ha => by rw [List.mem_singleton.mp ha]; exact F.notOwn hI) (fun a ha => by rw [List.mem_singleton.mp ha]; exact F.fresh hI)
  · rintro j v h₃ tk hj ⟨tj, rfl⟩ f bb
    have hj' : j < ms.length := by simpa [hnn] using hj
    refine wpAny_assign_Name (sv f fun h₄ tk₄ F₄ b₄ => ?_)
    refine st_eq { s with heap := h₄, toks := tk₄ } rfl ?_
    have X₄ : Facts h₄ N B Ln T O ms := X.to F ((but_drop g₂ hI bb).trans b₄)
    refine la9in (base := base) (tl := tj) (j := j) G R hu hms hj' (F₄.sub _ rfl) X₄ fun h₅ tk₅ g₅ => ?_
    exact ⟨h₅, tk₅, rfl, (F₄.grown g₅).sub _ rfl, b₄.trans (But.of_grown g₅)⟩
  · intro h₃ tk₃ f bb
    refine wpAny_execs_nil (wpAny_execs_cons (wpAny_Return_some (wpAny_Constant_bool ?_)))
    exact h h₃ _ f.keep
end
end Mine

-- part L8
set_option Elab.async false
set_option maxRecDepth 100000
namespace Mine
section
variable {w : World} {mg mb : Str → Option Value} {A : Around} {E : Value → Shared → Prop} {s : Shared}
theorem la_body {base : Heap} {L l : Addr} {ls : List Value} {ns : List Int} {Z : Flow → Shared → Prop} (G : Gd w mg mb base) (R : Room A 2) (hu : A.units + 64 < cLine) (hl : base.IsList l ls.toArray) (hi : IntsAre ls ns) (hlen : ns.length ≤ 63) (F : FF base (laE L) s.heap [(Str.ofString "script", .ref l)])
    (h : ∀ h' tk, Grown base h' → Z (.ret (.bool true)) { s with heap := h', toks := tk }) :
    wpAny (MD w) A (execs laB (laE L)) Z (fun _ _ => False) s := by
  have R1 : Room A 1 := R.mono (by decide)
  obtain ⟨h1, h4⟩ := mods_len ns
  refine la0 G R.h hu hl hi hlen F fun N nvs h₁ tk₁ nb no pl ii F₁ => ?_
  refine la1 hu hl hi F₁ pl no fun ts h₂ tk₂ pl₂ F₂ => ?_
  refine la2 G R1 ii h1 h4 F₂ pl₂ no nb fun B bvs h₃ tk₃ bb bo plB iB plN F₃ => ?_
  have hmm := mems_len (mods ns)
  refine la3 G R iB (by omega) F₃ plB fun Ln lvs h₄ tk₄ lb lo plL iL F₄ b₄ => ?_
  have plN₄ : h₄.PlainList N nvs := plN.at fun o e => b₄ _ o no e
  have plB₄ : h₄.PlainList B bvs := plB.at fun o e => b₄ _ o bo e
  refine la4 G R.h hu iL (by omega) F₄ plL fun h₅ tk₅ g₅ => ?_
  have plN₅ : h₅.PlainList N nvs := plN₄.at fun o e => g₅ _ o e
  have plB₅ : h₅.PlainList B bvs := plB₄.at fun o e => g₅ _ o e
  have plL₅ : h₅.PlainList Ln lvs := plL.at fun o e => g₅ _ o e
  refine la5 G R iL (by omega) (F₄.grown g₅) plL₅ fun T tvs h₆ tk₆ to plT pT F₆ b₆ => ?_
  have plN₆ : h₆.PlainList N nvs := plN₅.at fun o e => b₆ _ o no e
  have plB₆ : h₆.PlainList B bvs := plB₅.at fun o e => b₆ _ o bo e
  have plL₆ : h₆.PlainList Ln lvs := plL₅.at fun o e => b₆ _ o lo e
  refine la6 G R1 (by omega) F₆ plT pT fun O ovs h₇ tk₇ oo plO pO F₇ b₇ => ?_
  have X₇ : Facts h₇ N B Ln T O (mods ns) := by
    refine ⟨⟨nvs.toList, ?_, ii⟩, ⟨bvs.toList, ?_, iB⟩, ⟨lvs.toList, ?_, iL⟩, ⟨tvs.toList, ?_, ?_⟩, ⟨ovs.toList, ?_, ?_⟩⟩
    · exact (plN₆.at fun o e => b₇ _ o no e).isList
    · exact (plB₆.at fun o e => b₇ _ o bo e).isList
    · exact (plL₆.at fun o e => b₇ _ o lo e).isList
    · exact (plT.at fun o e => b₇ _ o to e).isList
    · have key : ∀ {a : List Value} {ms : List Nat}, Paired (TR (T :: own (laE L)) h₆) a ((ms.map row).map (·.map fold)) → Paired (RowS h₇) a ms := by
        intro a ms
        induction ms generalizing a with
        | nil => intro q; cases q; exact .nil
        | cons m r ih =>
          intro q
          cases q with
          | cons q1 q2 =>
            obtain ⟨p, l, e1, e2, e3, e4⟩ := q1
            exact .cons ⟨p, l, e1, e3.at fun o e => b₇ _ o (fun x => e2 (List.mem_cons_of_mem _ x)) e, e4⟩ (ih q2)
      exact key pT
    · exact plO.isList
    · exact Paired.imp (fun v m q => let ⟨p, l, e1, _, e3, e4⟩ := q; ⟨p, l, e1, e3, e4⟩) pO
  refine la7 G R1 h4 F₇ X₇ fun h₈ tk₈ X₈ F₈ => ?_
  refine la8 G R1 hu h4 (F₈.sub _ rfl) X₈ fun h₉ tk₉ X₉ F₉ => ?_
  refine la9 G R1 hu h4 F₉ X₉ fun h' tk' g' => ?_
  exact h h' tk' g'
theorem c_law {l : Addr} {ls : List Value} {ns : List Int} {R : Result → Shared → Prop} (G : Gd w mg mb s.heap) (Rm : Room A 3) (hu : A.units + 100 < cLine) (hl : s.heap.IsList l ls.toArray) (hi : IntsAre ls ns) (hlen : ns.length ≤ 63)
    (h : ∀ h' tk, Grown s.heap h' → R (.ok (.ret (.bool true))) { s with heap := h', toks := tk }) :
    codeAny (MD w) A (.call (.ref 153) ⟨[.ref l], []⟩) R s := by
  have hn2 : ((cellsFrom 0 (fScope (stm 34)).names []).map (·.1)).Nodup := by decide +kernel
  have hn3 : ((cellsFrom (s.heap.objs.size + 1) (fScope (stm 34)).names []).map (·.1)).Nodup := cellsFrom_names (fScope (stm 34)).names 0 (s.heap.objs.size + 1) [] [] rfl ▸ hn2
  have hn1 : ([(Str.ofString "script", Value.ref l)].map (·.1)).Nodup := by show List.Nodup [Str.ofString "script"]; decide +kernel
  refine call_cells_ret (a := 153) (cd := .ref 152) (name := fName (stm 34)) (params := fParams (stm 34)) (body := fBody (stm 34)) (scope := fScope (stm 34)) (binds := [(Str.ofString "script", .ref l)]) (by have := Rm.d; omega) (G.X 153 ob153 rfl) rfl G.T.nolimit (codeRec_of G.X (by kernel_rfl)) rfl ?_ (fun h₁ tk F X => ?_) rfl rfl rfl
  · intro x hx
    simp only [List.mem_cons, List.not_mem_nil, or_false] at hx
    subst hx; exact .inl rfl
  have FFF : FF s.heap (laE s.heap.objs.size) h₁ [(Str.ofString "script", .ref l)] := by
    refine { keep := F.keep, new := ?_, ns := ⟨_, F.ns, fun p hp hl => bindL_mem hl hn1 hp⟩, cell := fun x c hm => ⟨_, X.cell x c (lookup_of_mem_nodup hn3 hm), fun p hp e hk' => ?_⟩, apart := fun x y c h1 h2 => name_of_addr X.apart h1 h2, once := fun x c c' h1 h2 => ?_, off := fun x c hm => Nat.ne_of_gt (X.above x c hm), fn := rfl, gl := rfl, bi := rfl }
    · intro a ha
      rcases List.mem_cons.mp ha with rfl | ha
      · exact get_none_of_le (Nat.le_refl _)
      · obtain ⟨⟨x, c⟩, hm, rfl⟩ := List.mem_map.mp ha
        exact get_none_of_le (Nat.le_of_lt (X.above x c hm))
    · subst e; exact bindC_mem hk' hn1 hp
    · have e1 := lookup_of_mem_nodup hn3 h1
      have e2 := lookup_of_mem_nodup hn3 h2
      rw [e1] at e2; exact Option.some.inj e2
  have R2 : Room (A.deeper (laE s.heap.objs.size)) 2 := Rm.deeper
  have hu2 : (A.deeper (laE s.heap.objs.size)).units + 64 < cLine := by show A.units + 3 + 64 < _; omega
  exact la_body (s := { s with heap := h₁, toks := tk }) (base := s.heap) G R2 hu2 hl hi hlen FFF fun h' tk' g' => h h' tk' g'
end
theorem postTrue (a b : List WData) : LW.row.claim.post a (.bool true) b = true := by
  show (WShape.has LW.row.records (.bool true) .bool && (WTm.eq .res (.lit (.bool true))).holds LW.row.records { args := a, res := some (.bool true), after := b }) = true
  rw [Bool.and_eq_true]
  refine ⟨by rfl, ?_⟩
  have e : same (WData.bool true) (WData.bool true) = true := by decide +kernel
  simp only [WTm.holds, WTm.value]
  rw [e]
theorem cw_nq0144_01_holds' : LW.Holds := by
  refine head1 ?hw _ _ rfl rfl rfl ?hc
  case hw => w_witness2
  case hc =>
    show WalkO vw loose (XL vw []) (kHook KF KA (fun _ => by kernel_rfl)).says LW.row.toRowW _ _ _
    intro w s₀ s₁ mg mb G Y fa o pm cd doc dV kV ho hd hcd hD hmg hg args vals as hpre hlay hrd hwl hlo
    have KX := kIn_of Y
    refine Ground.open G ?_
    intro T B D TE TW
    have e153 := mg_of (n := Str.ofString "law") (v := .ref 153) KX T.g (by kernel_rfl)
    have efa : fa = 153 := by
      have := hmg.symm.trans e153
      cases this; rfl
    subst efa
    w_strict (w_on; wrow_args hpre hlay hrd hwl hlo)
    rename_i hL _ _ _ hI _ hcond _
    refine enter_call ?_
    refine codeAny_mono (c_law (mg := mg) (mb := mb) ⟨KX, topRead_of T⟩ ⟨by decide, by decide, rfl⟩ (by decide) hL hI (by omega) (R := fun r s' => ∃ h' tk, r = .ok (.ret (.bool true)) ∧ s' = { s₁ with heap := h', toks := tk } ∧ Grown s₁.heap h') fun h' tk g => ⟨h', tk, rfl, rfl, g⟩) ?_
    rintro r s' ⟨h', tk, rfl, rfl, g⟩
    refine GoodW.toG ⟨.inl ⟨.bool true, .bool true, [], rfl, ?_, ?_, ?_, ?_⟩, g, rfl, hg⟩
    · intro cls; first | rfl | (simp [LW]; done)
    · first | exact .bool _ | constructor
    · refine postTrue _ _
    · intro _; exact ⟨List.nodup_nil, by simp⟩
end Mine

theorem PySem.Challenge.cw_nq0144_01_holds : PySem.Challenge.rw_nq0144_01.Holds :=
  Mine.cw_nq0144_01_holds'
