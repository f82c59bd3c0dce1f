import PyProof.Rows.All
import Wide.All
import OpenK.AllK
import Wide.FinOn
import PySem.Challenge.RW_ak0021_01
set_option Elab.async false
section
open PySem PySem.W PyProof.Rows PySem.Calls
set_option maxRecDepth 100000
set_option maxHeartbeats 4000000
set_option linter.unusedVariables false
namespace Mine
section
variable {tb : String → Option Builtin} {p : Program} {w : World} {n₀ : Nat} {ann : Option Value}

noncomputable def Lead (tb : String → Option Builtin) (p : Program) (w : World) (n₀ : Nat) (ann : Option Value) (n : Nat) (s : Shared) (t : Thread) (s' : Shared) (t' : Thread) : Prop :=
  ∀ N r, topRun tb p w n₀ ann N s' t' = some r → topRun tb p w n₀ ann (n + N) s t = some r

theorem Lead.refl {s : Shared} {t : Thread} : Lead tb p w n₀ ann 0 s t s t := fun N r h => by rw [Nat.zero_add]; exact h
theorem Lead.trans {n m : Nat} {s s₁ s₂ : Shared} {t t₁ t₂ : Thread} (a : Lead tb p w n₀ ann n s t s₁ t₁) (b : Lead tb p w n₀ ann m s₁ t₁ s₂ t₂) : Lead tb p w n₀ ann (n + m) s t s₂ t₂ :=
  fun N r h => by rw [Nat.add_assoc]; exact a _ _ (b _ _ h)
theorem Lead.mono {n m : Nat} {s s' : Shared} {t t' : Thread} (a : Lead tb p w n₀ ann n s t s' t') (h : n ≤ m) : Lead tb p w n₀ ann m s t s' t' :=
  fun N r q => by
    have := topRun_mono (m - n) _ _ _ _ (a N r q)
    rwa [show n + N + (m - n) = m + N by omega] at this
theorem Lead.step {s s' : Shared} {t t' : Thread} (ht : through t = false) (hk : stepOk n₀ ann t = true) (hs : step (denote tb) p w s t = .go s' t') : Lead tb p w n₀ ann 1 s t s' t' :=
  fun N r h => by
    rw [Nat.add_comm]
    unfold topRun
    rw [ht, hk, hs]
    exact h
theorem topGo_of_segGo {b : Nat} : ∀ {n : Nat} {s s' : Shared} {t t' : Thread}, segGo tb p w n₀ ann b n s t = some (s', t') → topGo tb p w n₀ ann n s t = some (s', t')
  | 0, _, _, _, _, h => h
  | n + 1, s, s', t, t', h => by
    unfold segGo at h
    unfold topGo
    cases he : endAt b t with
    | some x => rw [he] at h; cases h
    | none =>
      rw [he] at h
      cases hk : stepOk n₀ ann t with
      | false => rw [hk] at h; cases h
      | true =>
        rw [hk] at h
        cases hs : PySem.step (denote tb) p w s t with
        | halt o s₂ => rw [hs] at h; cases h
        | go s₂ t₂ =>
          rw [hs] at h
          have ht : through t = false := by
            obtain ⟨cur, code, pos, stack⟩ := t
            cases hq : through ⟨cur, code, pos, stack⟩ with
            | false => rfl
            | true =>
              exfalso
              unfold through at hq
              obtain ⟨h1, h2⟩ := Bool.and_eq_true_iff.mp hq
              have e1 : stack = [] := List.isEmpty_iff.mp h1
              subst e1
              split at h2
              · rename_i f hf
                dsimp only at hf
                subst hf
                obtain ⟨heap, gens, drawn, toks, os⟩ := s
                simp only [PySem.step, finish] at hs
                split at hs <;> cases hs
              · cases h2
          rw [ht]
          exact topGo_of_segGo h
theorem Lead.of_seg {b n : Nat} {s s' : Shared} {t t' : Thread} (h : segGo tb p w n₀ ann b n s t = some (s', t')) : Lead tb p w n₀ ann n s t s' t' :=
  fun N r k => go_top (topGo_of_segGo h) k

noncomputable def Does (tb : String → Option Builtin) (p : Program) (w : World) (n₀ : Nat) (ann : Option Value) (B : List Frame) (c : Code) {α : Type} (n : Nat) (x : Sem α) (s : Shared) (q : Pos) (a : α) (s' : Shared) (q' : Pos) : Prop :=
  ∀ (K : α → Sem Fin) (H : Value → Sem Fin) (gd : Bool → Bool) (lv : List Value → List Value), Lead tb p w n₀ ann n s ⟨x.wrap K H gd lv, c, q, B⟩ s' ⟨K a, c, q', B⟩

variable {B : List Frame} {c : Code} {α β : Type} {s s₁ s₂ : Shared} {q q₁ q₂ : Pos}
theorem Does.pure {a : α} : Does tb p w n₀ ann B c 0 (Sem.pure a) s q a s q := fun _ _ _ _ => Lead.refl
theorem Does.ret {a : α} : Does tb p w n₀ ann B c 0 (Pure.pure a : Sem α) s q a s q := fun _ _ _ _ => Lead.refl
theorem Does.mono {n m : Nat} {x : Sem α} {a : α} (h : Does tb p w n₀ ann B c n x s q a s₁ q₁) (l : n ≤ m) : Does tb p w n₀ ann B c m x s q a s₁ q₁ := fun K H gd lv => (h K H gd lv).mono l
theorem Does.bind' {n m : Nat} {x : Sem α} {f : α → Sem β} {a : α} {b : β} (h : Does tb p w n₀ ann B c n x s q a s₁ q₁) (k : Does tb p w n₀ ann B c m (f a) s₁ q₁ b s₂ q₂) : Does tb p w n₀ ann B c (n + m) (x.bind f) s q b s₂ q₂ :=
  fun K H gd lv => by
    rw [Sem.bind_eq_wrap, Sem.wrap_wrap]
    exact (h (fun a => (f a).wrap K H gd lv) _ _ _).trans (k K H gd lv)
theorem Does.bind {n m : Nat} {x : Sem α} {f : α → Sem β} {a : α} {b : β} (h : Does tb p w n₀ ann B c n x s q a s₁ q₁) (k : Does tb p w n₀ ann B c m (f a) s₁ q₁ b s₂ q₂) : Does tb p w n₀ ann B c (n + m) (x >>= f) s q b s₂ q₂ := h.bind' k
theorem Does.keep {n : Nat} {x : Sem α} {a : α} {vs : List Value} (h : Does tb p w n₀ ann B c n x s q a s₁ q₁) : Does tb p w n₀ ann B c n (x.keep vs) s q a s₁ q₁ :=
  fun K H gd lv => by
    rw [Sem.keep_eq_wrap, Sem.wrap_wrap]
    exact h (fun a => (Sem.pure a : Sem α).wrap K H gd lv) _ _ _
theorem Does.holding {n : Nat} {x : Sem α} {a : α} {vs : List Value} (h : Does tb p w n₀ ann B c n x s q a s₁ q₁) : Does tb p w n₀ ann B c n (PySem.holding vs x) s q a s₁ q₁ := by
  rw [holding_eq_keep]; exact h.keep
theorem Does.load {a : Addr} {part : Option Value} {o : Obj} (h : s.heap.get? a = some o) : Does tb p w n₀ ann B c 1 (PySem.loadPart a part) s q o s q := fun K H gd lv => by
  refine Lead.step ?_ rfl ?_
  · simp [through, PySem.loadPart, Sem.wrap]
  · obtain ⟨heap, gens, drawn, toks, os⟩ := s
    have h : heap.get? a = some o := h
    simp only [PySem.loadPart, Sem.wrap, PySem.step, h]
theorem Does.load0 {a : Addr} {o : Obj} (h : s.heap.get? a = some o) : Does tb p w n₀ ann B c 1 (PySem.load a) s q o s q := Does.load (part := none) h
theorem Does.update {a : Addr} {part : Option Value} {f : Obj → Obj} {o : Obj} (ha : Nat.ble n₀ a = true) (h : s.heap.get? a = some o) : Does tb p w n₀ ann B c 1 (PySem.updatePart a part f) s q () { s with heap := s.heap.update a f } q := fun K H gd lv => by
  refine Lead.step ?_ ?_ ?_
  · simp [through, PySem.updatePart, Sem.wrap]
  · simp [stepOk, Thread.calm, Thread.atCollectorCode, Thread.yieldsInsideHandler, PySem.updatePart, Sem.wrap, ha]
  · obtain ⟨heap, gens, drawn, toks, os⟩ := s
    have h : heap.get? a = some o := h
    simp only [PySem.updatePart, Sem.wrap, PySem.step, h, Option.isSome_some, if_true]
theorem Does.update0 {a : Addr} {f : Obj → Obj} {o : Obj} (ha : Nat.ble n₀ a = true) (h : s.heap.get? a = some o) : Does tb p w n₀ ann B c 1 (PySem.update a f) s q () { s with heap := s.heap.update a f } q := Does.update (part := none) ha h
theorem Does.ask : Does tb p w n₀ ann B c 1 PySem.ask s q ⟨p, w.params⟩ s q := fun K H gd lv => by
  refine Lead.step ?_ rfl ?_
  · simp [through, PySem.ask, Sem.wrap]
  · obtain ⟨heap, gens, drawn, toks, os⟩ := s; rfl
theorem Does.fresh : Does tb p w n₀ ann B c 1 PySem.fresh s q s.toks { s with toks := s.toks + 1 } q := fun K H gd lv => by
  refine Lead.step ?_ rfl ?_
  · simp [through, PySem.fresh, Sem.wrap]
  · obtain ⟨heap, gens, drawn, toks, os⟩ := s; rfl
theorem Does.rule {t : String} : Does tb p w n₀ ann B c 1 (PySem.rule t) s q () s q := fun K H gd lv => by
  refine Lead.step ?_ rfl ?_
  · simp [through, PySem.rule, Sem.wrap]
  · obtain ⟨heap, gens, drawn, toks, os⟩ := s; rfl
theorem Does.standAt {q' : Pos} : Does tb p w n₀ ann B c 1 (PySem.standAt q') s q () s q' := fun K H gd lv => by
  refine Lead.step ?_ rfl ?_
  · simp [through, PySem.standAt, Sem.wrap]
  · obtain ⟨heap, gens, drawn, toks, os⟩ := s; rfl
theorem Does.alloc {o : Obj} : Does tb p w n₀ ann B c 1 (PySem.alloc o) s q s.heap.objs.size { s with heap := s.heap.push o } q := fun K H gd lv => by
  refine Lead.step ?_ rfl ?_
  · simp [through, PySem.alloc, Sem.wrap]
  · obtain ⟨heap, gens, drawn, toks, os⟩ := s; rfl
/-- from a run of the tree alone at the same base -/
theorem Does.of_seg {n b : Nat} {x : Sem α} {a : α} {res : α → Flow} (hB : splitAtGen B = none) (hb : B.length = b) (inj : ∀ a b, res a = res b → a = b)
    (h : ∀ gd lv, segRun tb p w n₀ ann b n s ⟨x.wrap (fun a => .pure (.done (res a))) deadEnd gd lv, c, q, B⟩ = some (res a, s₁, c, q₁)) : Does tb p w n₀ ann B c n x s q a s₁ q₁ := fun K H gd lv N r k => by
  subst hb
  obtain ⟨a', ha, hN⟩ := seg_top (res := res) (K' := K) (H' := H) (gd := gd) (lv := lv) (B := B) hB n s ⟨x.wrap (fun a => .pure (.done (res a))) deadEnd gd lv, c, q, B⟩ ⟨x.wrap K H gd lv, c, q, B⟩ _ _ _ _ ⟨rfl, rfl, .inl ⟨rfl, rfl, x, rfl, rfl⟩⟩ (h gd lv)
  obtain rfl := inj _ _ ha
  exact hN N r k
/-- a statement, from its run alone -/
theorem stmt_lead {n b : Nat} {st : Stmt} {rest : List Stmt} {env : Env} {K : Flow → Sem Fin} {H : Value → Sem Fin} (hB : splitAtGen B = none) (hb : B.length = b)
    (h : segRun tb p w n₀ ann b n s ⟨(exec st env).wrap doneF deadEnd id id, c, q, B⟩ = some (.next, s₁, c, q₁)) :
    Lead tb p w n₀ ann n s ⟨(execs (st :: rest) env).wrap K H id id, c, q, B⟩ s₁ ⟨(execs rest env).wrap K H id id, c, q₁, B⟩ := fun N r k => by
  subst hb
  obtain ⟨a', ha, hN⟩ := seg_top (res := id) (K' := fun f => match f with | .next => (execs rest env).wrap K H id id | f => K f) (H' := H) (gd := id) (lv := id) (B := B) hB n s
    ⟨(exec st env).wrap doneF deadEnd id id, c, q, B⟩ ⟨(exec st env).wrap (fun f => match f with | .next => (execs rest env).wrap K H id id | f => K f) H id id, c, q, B⟩ _ _ _ _ ⟨rfl, rfl, .inl ⟨rfl, rfl, _, rfl, rfl⟩⟩ h
  have ha : a' = .next := ha
  subst ha
  rw [execs_cons_wrap]
  exact hN N r k
theorem stmt_does {n : Nat} {st : Stmt} {rest : List Stmt} {env : Env} {K : Flow → Sem Fin} {H : Value → Sem Fin} (h : Does tb p w n₀ ann B c n (exec st env) s q .next s₁ q₁) :
    Lead tb p w n₀ ann n s ⟨(execs (st :: rest) env).wrap K H id id, c, q, B⟩ s₁ ⟨(execs rest env).wrap K H id id, c, q₁, B⟩ := by
  rw [execs_cons_wrap]
  exact h (fun f => match f with | .next => (execs rest env).wrap K H id id | f => K f) H id id
/-- a class body's beginning -/
theorem body_lead {n b : Nat} {body : List Stmt} {env : Env} (hB : splitAtGen B = none) (hb : B.length = b)
    (h : segRun tb p w n₀ ann b n s ⟨(blockStart body env).wrap (fun _ => doneF .next) deadEnd id id, c, q, B⟩ = some (.next, s₁, c, q₁)) :
    Lead tb p w n₀ ann n s ⟨denote tb (.body body env), c, q, B⟩ s₁ ⟨(execs body env).wrap doneF (leaveH env) id id, c, q₁, B⟩ := fun N r k => by
  subst hb
  obtain ⟨a', ha, hN⟩ := seg_top (res := fun _ : Unit => Flow.next) (K' := fun _ => (execs body env).wrap doneF (leaveH env) id id) (H' := Sem.raise) (gd := id) (lv := id) (B := B) hB n s
    ⟨(blockStart body env).wrap (fun _ => doneF .next) deadEnd id id, c, q, B⟩ ⟨(blockStart body env).wrap (fun _ => (execs body env).wrap doneF (leaveH env) id id) .raise id id, c, q, B⟩ _ _ _ _ ⟨rfl, rfl, .inl ⟨rfl, rfl, _, rfl, rfl⟩⟩ h
  rw [body_wrap]
  exact hN N r k
end
end Mine
end
section
open PySem PySem.W PyProof.Rows
set_option maxRecDepth 100000
set_option maxHeartbeats 4000000
namespace Mine
/-- the text's statements, read off the row -/
noncomputable def txt : List Stmt := PySem.Challenge.pw_ak0021_01.main.body
noncomputable def fnOfS : Option Stmt → Arguments × List Stmt × Scope
  | some (.FunctionDef _ a b _ _ _ sc _ _ _) => (a, b, sc)
  | _ => (default, [], default)
noncomputable def fnT (i : Nat) : Arguments × List Stmt × Scope := fnOfS txt[i]?
noncomputable def clsBody : Option Stmt → List Stmt
  | some (.ClassDef _ _ _ b _ _ _ _ _ _ _) => b
  | _ => []
noncomputable def fnC (i j : Nat) : Arguments × List Stmt × Scope := fnOfS (clsBody txt[i]?)[j]?
noncomputable def mkF (name qual : Str) (x : Arguments × List Stmt × Scope) (dV kV doc pm : Value) (an : Option Addr) (cdv ct : Value) : FuncData :=
  { name, qualname := qual, params := x.1, body := .stmts x.2.1, scope := x.2.2, globals := mainGlobals, closure := [], defaults := dV, kwdefaults := kV, doc, pyModule := pm, annotations := an, code := cdv, closureTuple := ct, builtins := builtinsNs }
/-- the set of strs: its entries, its count of changes, its table -/
structure SetSt where
  es : Array (Int × Value)
  ep : Nat
  t : SetTable
noncomputable def setObj (x : SetSt) : Obj := ⟨.type "set", none, .set x.es x.ep x.t, #[]⟩
noncomputable def unledSt (x : SetSt) : SetSt := ⟨x.es, x.ep + 1, { x.t with led := false }⟩
noncomputable def lieSt (h : Int) (x : SetSt) (v : Value) : SetSt × Bool :=
  let l := layNew x.t x.es h v
  (⟨l.1, x.ep + 1, if l.2.1.plain then { l.2.1 with plain := false } else l.2.1⟩, l.2.2.1)
noncomputable def addSt (h : Int) (x : SetSt) (v : Value) : SetSt :=
  let y := lieSt h x v
  if !y.2 && y.1.t.tooFull then
    let r := relayAll y.1.t y.1.es (SetTable.grown y.1.es.size)
    ⟨r.1, y.1.ep + 1, r.2.1⟩
  else y.1
noncomputable def sHash (P : Params) (s : Str) : Int := PyData.keyHash P s
noncomputable def freshSt (P : Params) : SetSt := ⟨#[], 0, .fresh 0 0 (!P.followText "set-order")⟩
noncomputable def stAfter (P : Params) : List (Str × Tok) → SetSt → SetSt
  | [], x => x
  | (s, t) :: r, x => stAfter P r (addSt (sHash P s) x (.str s t))
noncomputable def vowels : List (Str × Tok) := [(Str.ofString "ա", 473), (Str.ofString "ե", 474), (Str.ofString "է", 475), (Str.ofString "ը", 476), (Str.ofString "ի", 477), (Str.ofString "ո", 478), (Str.ofString "ւ", 479), (Str.ofString "օ", 480)]
noncomputable def oSet (P : Params) : Obj := setObj (unledSt (stAfter P vowels (freshSt P)))
noncomputable def tabRefs (b n : Nat) : List Value := (List.range n).map fun i => Value.ref (b + 3 * i + 1)
noncomputable def KA (P : Params) : Frag :=
  (nat_lit 2, Obj.mk Value.none none (Data.dict #[DictEntry.mk (PyData.keyHash P (Str.ofString "type.__subclasses__.Exception.0")) (Value.str (Str.ofString "type.__subclasses__.Exception.0") 3146) (Value.int 864 0), DictEntry.mk (PyData.keyHash P (Str.ofString "type.__subclasses__.Exception.n")) (Value.str (Str.ofString "type.__subclasses__.Exception.n") 3147) (Value.int 1 0)] 2) #[]) ::
  (nat_lit 3, Obj.mk (Value.type "dict") none (Data.dict #[DictEntry.mk (PyData.keyHash P (Str.ofString "__name__")) (Value.str (Str.ofString "__name__") 165) (Value.str (Str.ofString "law_ak0021_01") 3150), DictEntry.mk (PyData.keyHash P (Str.ofString "__doc__")) (Value.str (Str.ofString "__doc__") 166) Value.none, DictEntry.mk (PyData.keyHash P (Str.ofString "__package__")) (Value.str (Str.ofString "__package__") 167) Value.none, DictEntry.mk (PyData.keyHash P (Str.ofString "__loader__")) (Value.str (Str.ofString "__loader__") 168) (Value.builtin "__main__.__loader__#opaque"), DictEntry.mk (PyData.keyHash P (Str.ofString "__spec__")) (Value.str (Str.ofString "__spec__") 169) Value.none, DictEntry.mk (PyData.keyHash P (Str.ofString "__annotations__")) (Value.str (Str.ofString "__annotations__") 170) (Value.ref 6), DictEntry.mk (PyData.keyHash P (Str.ofString "__builtins__")) (Value.str (Str.ofString "__builtins__") 171) (Value.ref 4), DictEntry.mk (PyData.keyHash P (Str.ofString "__file__")) (Value.str (Str.ofString "__file__") 173) (Value.str (Str.ofString "/claim/cut.py") 172), DictEntry.mk (PyData.keyHash P (Str.ofString "__cached__")) (Value.str (Str.ofString "__cached__") 174) Value.none, DictEntry.mk (PyData.keyHash P (Str.ofString "_wall")) (Value.str (Str.ofString "_wall") 193) (Value.ref 21), DictEntry.mk (PyData.keyHash P (Str.ofString "BaseStemmer")) (Value.str (Str.ofString "BaseStemmer") 423) (Value.ref 197), DictEntry.mk (PyData.keyHash P (Str.ofString "Among")) (Value.str (Str.ofString "Among") 458) (Value.ref 218), DictEntry.mk (PyData.keyHash P (Str.ofString "ArmenianStemmer")) (Value.str (Str.ofString "ArmenianStemmer") 3129) (Value.ref 852), DictEntry.mk (PyData.keyHash P (Str.ofString "lab0")) (Value.str (Str.ofString "lab0") 3149) (Value.ref 864), DictEntry.mk (PyData.keyHash P (Str.ofString "_law_signs")) (Value.str (Str.ofString "_law_signs") 3153) (Value.str (Str.ofString "աբգդեզէըթժիլխծկհձղճմյնշոչպջռսվտրցւփքօֆև") 3152), DictEntry.mk (PyData.keyHash P (Str.ofString "_law_vowels")) (Value.str (Str.ofString "_law_vowels") 3155) (Value.str (Str.ofString "աեէըիուօ") 3154), DictEntry.mk (PyData.keyHash P (Str.ofString "_law_others")) (Value.str (Str.ofString "_law_others") 3157) (Value.str (Str.ofString "բգդզթժլխծկհձղճմյնշչպջռսվտրցփքֆ") 3156), DictEntry.mk (PyData.keyHash P (Str.ofString "_law_last")) (Value.str (Str.ofString "_law_last") 3159) (Value.str (Str.ofString "զժխձճշռփֆ") 3158), DictEntry.mk (PyData.keyHash P (Str.ofString "_law_cases")) (Value.str (Str.ofString "_law_cases") 3217) (Value.ref 868), DictEntry.mk (PyData.keyHash P (Str.ofString "_law_plurals")) (Value.str (Str.ofString "_law_plurals") 3227) (Value.ref 869), DictEntry.mk (PyData.keyHash P (Str.ofString "_law_nouns")) (Value.str (Str.ofString "_law_nouns") 3265) (Value.ref 870), DictEntry.mk (PyData.keyHash P (Str.ofString "_law_adjectives")) (Value.str (Str.ofString "_law_adjectives") 3287) (Value.ref 871), DictEntry.mk (PyData.keyHash P (Str.ofString "_law_verbs")) (Value.str (Str.ofString "_law_verbs") 3359) (Value.ref 872), DictEntry.mk (PyData.keyHash P (Str.ofString "_law_at")) (Value.str (Str.ofString "_law_at") 3367) (Value.ref 879), DictEntry.mk (PyData.keyHash P (Str.ofString "_law_sign")) (Value.str (Str.ofString "_law_sign") 3375) (Value.ref 886), DictEntry.mk (PyData.keyHash P (Str.ofString "_law_pick")) (Value.str (Str.ofString "_law_pick") 3383) (Value.ref 893), DictEntry.mk (PyData.keyHash P (Str.ofString "law")) (Value.str (Str.ofString "law") 3389) (Value.ref 898)] 27) #[]) ::
  (nat_lit 34, Obj.mk (Value.type "code") none (Data.fields #[Value.str (Str.ofString "__init__") 208, Value.str (Str.ofString "BaseStemmer.__init__") 209, Value.str (Str.ofString "/claim/cut.py") 210, Value.int 7 0, Value.int 1 0, Value.int 0 0, Value.int 0 0, Value.int 3 0, Value.ref 29, Value.bool Bool.true, Value.int 181 0, Value.ref 30, Value.none, Value.ref 31, Value.ref 32, Value.ref 33, Value.int 212 0, Value.int 7 0, Value.str (Str.ofString "/claim/cut.py") 213]) #[]) ::
  (nat_lit 35, ⟨Value.type "function", none, .func (mkF (Str.ofString "__init__") (Str.ofString "BaseStemmer.__init__") (fnC 2 0) (Value.none) (Value.none) (Value.none) (Value.str (Str.ofString "snowballstemmer.basestemmer") 194) (none) (Value.ref 34) (Value.none)), #[]⟩) ::
  (nat_lit 41, Obj.mk (Value.type "code") none (Data.fields #[Value.str (Str.ofString "set_current") 215, Value.str (Str.ofString "BaseStemmer.set_current") 216, Value.str (Str.ofString "/claim/cut.py") 217, Value.int 10 0, Value.int 2 0, Value.int 0 0, Value.int 0 0, Value.int 3 0, Value.ref 36, Value.bool Bool.true, Value.int 181 0, Value.ref 37, Value.none, Value.ref 38, Value.ref 39, Value.ref 40, Value.int 220 0, Value.int 10 0, Value.str (Str.ofString "/claim/cut.py") 221]) #[]) ::
  (nat_lit 42, ⟨Value.type "function", none, .func (mkF (Str.ofString "set_current") (Str.ofString "BaseStemmer.set_current") (fnC 2 1) (Value.none) (Value.none) (Value.none) (Value.str (Str.ofString "snowballstemmer.basestemmer") 194) (none) (Value.ref 41) (Value.none)), #[]⟩) ::
  (nat_lit 48, Obj.mk (Value.type "code") none (Data.fields #[Value.str (Str.ofString "get_current") 223, Value.str (Str.ofString "BaseStemmer.get_current") 224, Value.str (Str.ofString "/claim/cut.py") 225, Value.int 18 0, Value.int 1 0, Value.int 0 0, Value.int 0 0, Value.int 3 0, Value.ref 43, Value.bool Bool.true, Value.int 181 0, Value.ref 44, Value.none, Value.ref 45, Value.ref 46, Value.ref 47, Value.int 227 0, Value.int 18 0, Value.str (Str.ofString "/claim/cut.py") 228]) #[]) ::
  (nat_lit 49, ⟨Value.type "function", none, .func (mkF (Str.ofString "get_current") (Str.ofString "BaseStemmer.get_current") (fnC 2 2) (Value.none) (Value.none) (Value.none) (Value.str (Str.ofString "snowballstemmer.basestemmer") 194) (none) (Value.ref 48) (Value.none)), #[]⟩) ::
  (nat_lit 69, Obj.mk (Value.type "code") none (Data.fields #[Value.str (Str.ofString "go_in_grouping") 246, Value.str (Str.ofString "BaseStemmer.go_in_grouping") 247, Value.str (Str.ofString "/claim/cut.py") 248, Value.int 27 0, Value.int 2 0, Value.int 0 0, Value.int 0 0, Value.int 3 0, Value.ref 64, Value.bool Bool.true, Value.int 181 0, Value.ref 65, Value.none, Value.ref 66, Value.ref 67, Value.ref 68, Value.int 251 0, Value.int 27 0, Value.str (Str.ofString "/claim/cut.py") 252]) #[]) ::
  (nat_lit 70, ⟨Value.type "function", none, .func (mkF (Str.ofString "go_in_grouping") (Str.ofString "BaseStemmer.go_in_grouping") (fnC 2 5) (Value.none) (Value.none) (Value.none) (Value.str (Str.ofString "snowballstemmer.basestemmer") 194) (none) (Value.ref 69) (Value.none)), #[]⟩) ::
  (nat_lit 97, Obj.mk (Value.type "code") none (Data.fields #[Value.str (Str.ofString "go_out_grouping") 278, Value.str (Str.ofString "BaseStemmer.go_out_grouping") 279, Value.str (Str.ofString "/claim/cut.py") 280, Value.int 43 0, Value.int 2 0, Value.int 0 0, Value.int 0 0, Value.int 3 0, Value.ref 92, Value.bool Bool.true, Value.int 181 0, Value.ref 93, Value.none, Value.ref 94, Value.ref 95, Value.ref 96, Value.int 283 0, Value.int 43 0, Value.str (Str.ofString "/claim/cut.py") 284]) #[]) ::
  (nat_lit 98, ⟨Value.type "function", none, .func (mkF (Str.ofString "go_out_grouping") (Str.ofString "BaseStemmer.go_out_grouping") (fnC 2 9) (Value.none) (Value.none) (Value.none) (Value.str (Str.ofString "snowballstemmer.basestemmer") 194) (none) (Value.ref 97) (Value.none)), #[]⟩) ::
  (nat_lit 139, Obj.mk (Value.type "code") none (Data.fields #[Value.str (Str.ofString "find_among_b") 326, Value.str (Str.ofString "BaseStemmer.find_among_b") 327, Value.str (Str.ofString "/claim/cut.py") 328, Value.int 65 0, Value.int 2 0, Value.int 0 0, Value.int 0 0, Value.int 3 0, Value.ref 134, Value.bool Bool.true, Value.int 181 0, Value.ref 135, Value.none, Value.ref 136, Value.ref 137, Value.ref 138, Value.int 343 0, Value.int 65 0, Value.str (Str.ofString "/claim/cut.py") 344]) #[]) ::
  (nat_lit 140, ⟨Value.type "function", none, .func (mkF (Str.ofString "find_among_b") (Str.ofString "BaseStemmer.find_among_b") (fnC 2 15) (Value.none) (Value.none) (Value.none) (Value.str (Str.ofString "snowballstemmer.basestemmer") 194) (none) (Value.ref 139) (Value.none)), #[]⟩) ::
  (nat_lit 146, Obj.mk (Value.type "code") none (Data.fields #[Value.str (Str.ofString "replace_s") 346, Value.str (Str.ofString "BaseStemmer.replace_s") 347, Value.str (Str.ofString "/claim/cut.py") 348, Value.int 110 0, Value.int 4 0, Value.int 0 0, Value.int 0 0, Value.int 3 0, Value.ref 141, Value.bool Bool.true, Value.int 181 0, Value.ref 142, Value.none, Value.ref 143, Value.ref 144, Value.ref 145, Value.int 354 0, Value.int 110 0, Value.str (Str.ofString "/claim/cut.py") 355]) #[]) ::
  (nat_lit 147, ⟨Value.type "function", none, .func (mkF (Str.ofString "replace_s") (Str.ofString "BaseStemmer.replace_s") (fnC 2 16) (Value.none) (Value.none) (Value.none) (Value.str (Str.ofString "snowballstemmer.basestemmer") 194) (none) (Value.ref 146) (Value.none)), #[]⟩) ::
  (nat_lit 153, Obj.mk (Value.type "code") none (Data.fields #[Value.str (Str.ofString "slice_from") 357, Value.str (Str.ofString "BaseStemmer.slice_from") 358, Value.str (Str.ofString "/claim/cut.py") 359, Value.int 120 0, Value.int 2 0, Value.int 0 0, Value.int 0 0, Value.int 3 0, Value.ref 148, Value.bool Bool.true, Value.int 181 0, Value.ref 149, Value.none, Value.ref 150, Value.ref 151, Value.ref 152, Value.int 362 0, Value.int 120 0, Value.str (Str.ofString "/claim/cut.py") 363]) #[]) ::
  (nat_lit 154, ⟨Value.type "function", none, .func (mkF (Str.ofString "slice_from") (Str.ofString "BaseStemmer.slice_from") (fnC 2 17) (Value.none) (Value.none) (Value.none) (Value.str (Str.ofString "snowballstemmer.basestemmer") 194) (none) (Value.ref 153) (Value.none)), #[]⟩) ::
  (nat_lit 160, Obj.mk (Value.type "code") none (Data.fields #[Value.str (Str.ofString "slice_del") 365, Value.str (Str.ofString "BaseStemmer.slice_del") 366, Value.str (Str.ofString "/claim/cut.py") 367, Value.int 128 0, Value.int 1 0, Value.int 0 0, Value.int 0 0, Value.int 3 0, Value.ref 155, Value.bool Bool.true, Value.int 181 0, Value.ref 156, Value.none, Value.ref 157, Value.ref 158, Value.ref 159, Value.int 369 0, Value.int 128 0, Value.str (Str.ofString "/claim/cut.py") 370]) #[]) ::
  (nat_lit 161, ⟨Value.type "function", none, .func (mkF (Str.ofString "slice_del") (Str.ofString "BaseStemmer.slice_del") (fnC 2 18) (Value.none) (Value.none) (Value.none) (Value.str (Str.ofString "snowballstemmer.basestemmer") 194) (none) (Value.ref 160) (Value.none)), #[]⟩) ::
  (nat_lit 188, Obj.mk (Value.type "code") none (Data.fields #[Value.str (Str.ofString "stemWord") 396, Value.str (Str.ofString "BaseStemmer.stemWord") 397, Value.str (Str.ofString "/claim/cut.py") 398, Value.int 140 0, Value.int 2 0, Value.int 0 0, Value.int 0 0, Value.int 3 0, Value.ref 183, Value.bool Bool.true, Value.int 181 0, Value.ref 184, Value.none, Value.ref 185, Value.ref 186, Value.ref 187, Value.int 401 0, Value.int 140 0, Value.str (Str.ofString "/claim/cut.py") 402]) #[]) ::
  (nat_lit 189, ⟨Value.type "function", none, .func (mkF (Str.ofString "stemWord") (Str.ofString "BaseStemmer.stemWord") (fnC 2 22) (Value.none) (Value.none) (Value.none) (Value.str (Str.ofString "snowballstemmer.basestemmer") 194) (none) (Value.ref 188) (Value.none)), #[]⟩) ::
  (nat_lit 193, Obj.mk (Value.type "code") none (Data.fields #[Value.str (Str.ofString "stemWords") 404, Value.str (Str.ofString "BaseStemmer.stemWords") 405, Value.str (Str.ofString "/claim/cut.py") 406, Value.int 145 0, Value.int 2 0, Value.int 0 0, Value.int 0 0, Value.int 3 0, Value.ref 190, Value.bool Bool.true, Value.int 181 0, Value.ref 191, Value.none, Value.none, Value.none, Value.ref 192, Value.int 407 0, Value.int 145 0, Value.str (Str.ofString "/claim/cut.py") 408]) #[]) ::
  (nat_lit 194, ⟨Value.type "function", none, .func (mkF (Str.ofString "stemWords") (Str.ofString "BaseStemmer.stemWords") (fnC 2 23) (Value.none) (Value.none) (Value.none) (Value.str (Str.ofString "snowballstemmer.basestemmer") 194) (none) (Value.ref 193) (Value.none)), #[]⟩) ::
  (nat_lit 196, Obj.mk (Value.type "dict") none (Data.dict #[DictEntry.mk (PyData.keyHash P (Str.ofString "__module__")) (Value.str (Str.ofString "__module__") 203) (Value.str (Str.ofString "snowballstemmer.basestemmer") 194), DictEntry.mk (PyData.keyHash P (Str.ofString "__firstlineno__")) (Value.str (Str.ofString "__firstlineno__") 207) (Value.int 5 206), DictEntry.mk (PyData.keyHash P (Str.ofString "__init__")) (Value.str (Str.ofString "__init__") 214) (Value.ref 35), DictEntry.mk (PyData.keyHash P (Str.ofString "set_current")) (Value.str (Str.ofString "set_current") 222) (Value.ref 42), DictEntry.mk (PyData.keyHash P (Str.ofString "get_current")) (Value.str (Str.ofString "get_current") 229) (Value.ref 49), DictEntry.mk (PyData.keyHash P (Str.ofString "copy_from")) (Value.str (Str.ofString "copy_from") 237) (Value.ref 56), DictEntry.mk (PyData.keyHash P (Str.ofString "in_grouping")) (Value.str (Str.ofString "in_grouping") 245) (Value.ref 63), DictEntry.mk (PyData.keyHash P (Str.ofString "go_in_grouping")) (Value.str (Str.ofString "go_in_grouping") 253) (Value.ref 70), DictEntry.mk (PyData.keyHash P (Str.ofString "in_grouping_b")) (Value.str (Str.ofString "in_grouping_b") 261) (Value.ref 77), DictEntry.mk (PyData.keyHash P (Str.ofString "go_in_grouping_b")) (Value.str (Str.ofString "go_in_grouping_b") 269) (Value.ref 84), DictEntry.mk (PyData.keyHash P (Str.ofString "out_grouping")) (Value.str (Str.ofString "out_grouping") 277) (Value.ref 91), DictEntry.mk (PyData.keyHash P (Str.ofString "go_out_grouping")) (Value.str (Str.ofString "go_out_grouping") 285) (Value.ref 98), DictEntry.mk (PyData.keyHash P (Str.ofString "out_grouping_b")) (Value.str (Str.ofString "out_grouping_b") 293) (Value.ref 105), DictEntry.mk (PyData.keyHash P (Str.ofString "go_out_grouping_b")) (Value.str (Str.ofString "go_out_grouping_b") 301) (Value.ref 112), DictEntry.mk (PyData.keyHash P (Str.ofString "eq_s")) (Value.str (Str.ofString "eq_s") 309) (Value.ref 119), DictEntry.mk (PyData.keyHash P (Str.ofString "eq_s_b")) (Value.str (Str.ofString "eq_s_b") 317) (Value.ref 126), DictEntry.mk (PyData.keyHash P (Str.ofString "find_among")) (Value.str (Str.ofString "find_among") 325) (Value.ref 133), DictEntry.mk (PyData.keyHash P (Str.ofString "find_among_b")) (Value.str (Str.ofString "find_among_b") 345) (Value.ref 140), DictEntry.mk (PyData.keyHash P (Str.ofString "replace_s")) (Value.str (Str.ofString "replace_s") 356) (Value.ref 147), DictEntry.mk (PyData.keyHash P (Str.ofString "slice_from")) (Value.str (Str.ofString "slice_from") 364) (Value.ref 154), DictEntry.mk (PyData.keyHash P (Str.ofString "slice_del")) (Value.str (Str.ofString "slice_del") 371) (Value.ref 161), DictEntry.mk (PyData.keyHash P (Str.ofString "insert")) (Value.str (Str.ofString "insert") 381) (Value.ref 168), DictEntry.mk (PyData.keyHash P (Str.ofString "slice_to")) (Value.str (Str.ofString "slice_to") 388) (Value.ref 175), DictEntry.mk (PyData.keyHash P (Str.ofString "assign_to")) (Value.str (Str.ofString "assign_to") 395) (Value.ref 182), DictEntry.mk (PyData.keyHash P (Str.ofString "stemWord")) (Value.str (Str.ofString "stemWord") 403) (Value.ref 189), DictEntry.mk (PyData.keyHash P (Str.ofString "stemWords")) (Value.str (Str.ofString "stemWords") 409) (Value.ref 194), DictEntry.mk (PyData.keyHash P (Str.ofString "__static_attributes__")) (Value.str (Str.ofString "__static_attributes__") 416) (Value.ref 195), DictEntry.mk (PyData.keyHash P (Str.ofString "__dict__")) (Value.str (Str.ofString "__dict__") 418) (Value.ref 198), DictEntry.mk (PyData.keyHash P (Str.ofString "__weakref__")) (Value.str (Str.ofString "__weakref__") 420) (Value.ref 199), DictEntry.mk (PyData.keyHash P (Str.ofString "__doc__")) (Value.str (Str.ofString "__doc__") 421) Value.none] 4) #[]) ::
  (nat_lit 197, Obj.mk (Value.type "type") none (Data.cls (PySem.ClassData.mk (Str.ofString "BaseStemmer") [Value.type "object"] [Value.ref 197, Value.type "object"] 196 (Str.ofString "BaseStemmer") Bool.true [] [Value.ref 852] Bool.false none Bool.false)) #[none, none, some (Value.str (Str.ofString "BaseStemmer") 196), some (Value.str (Str.ofString "BaseStemmer") 204), some (Value.builtin "object.__new__"), some (Value.bool Bool.true)]) ::
  (nat_lit 198, Obj.mk (Value.type "getset_descriptor") none (Data.fields #[Value.str (Str.ofString "__dict__") 417, Value.ref 197, Value.builtin "function.__dict__", Value.builtin "function.__dict__#set"]) #[]) ::
  (nat_lit 199, Obj.mk (Value.type "getset_descriptor") none (Data.fields #[Value.str (Str.ofString "__weakref__") 419, Value.ref 197, Value.builtin "ExceptionGroup.__weakref__", Value.none]) #[]) ::
  (nat_lit 217, Obj.mk (Value.type "dict") none (Data.dict #[DictEntry.mk (PyData.keyHash P (Str.ofString "__module__")) (Value.str (Str.ofString "__module__") 433) (Value.str (Str.ofString "snowballstemmer.among") 424), DictEntry.mk (PyData.keyHash P (Str.ofString "__firstlineno__")) (Value.str (Str.ofString "__firstlineno__") 437) (Value.int 148 436), DictEntry.mk (PyData.keyHash P (Str.ofString "__init__")) (Value.str (Str.ofString "__init__") 447) (Value.ref 215), DictEntry.mk (PyData.keyHash P (Str.ofString "__static_attributes__")) (Value.str (Str.ofString "__static_attributes__") 451) (Value.ref 216), DictEntry.mk (PyData.keyHash P (Str.ofString "__dict__")) (Value.str (Str.ofString "__dict__") 453) (Value.ref 219), DictEntry.mk (PyData.keyHash P (Str.ofString "__weakref__")) (Value.str (Str.ofString "__weakref__") 455) (Value.ref 220), DictEntry.mk (PyData.keyHash P (Str.ofString "__doc__")) (Value.str (Str.ofString "__doc__") 456) Value.none] 4) #[]) ::
  (nat_lit 218, Obj.mk (Value.type "type") none (Data.cls (PySem.ClassData.mk (Str.ofString "Among") [Value.type "object"] [Value.ref 218, Value.type "object"] 217 (Str.ofString "Among") Bool.true [] [] Bool.false none Bool.false)) #[none, none, some (Value.str (Str.ofString "Among") 426), some (Value.str (Str.ofString "Among") 434), some (Value.builtin "object.__new__"), some (Value.bool Bool.true)]) ::
  (nat_lit 219, Obj.mk (Value.type "getset_descriptor") none (Data.fields #[Value.str (Str.ofString "__dict__") 452, Value.ref 218, Value.builtin "function.__dict__", Value.builtin "function.__dict__#set"]) #[]) ::
  (nat_lit 220, Obj.mk (Value.type "getset_descriptor") none (Data.fields #[Value.str (Str.ofString "__weakref__") 454, Value.ref 218, Value.builtin "ExceptionGroup.__weakref__", Value.none]) #[]) ::
  (nat_lit 230, oSet P) ::
  (nat_lit 236, Obj.mk (Value.type "code") none (Data.fields #[Value.str (Str.ofString "r_mark_regions") 494, Value.str (Str.ofString "ArmenianStemmer.r_mark_regions") 495, Value.str (Str.ofString "/claim/cut.py") 496, Value.int 160 0, Value.int 1 0, Value.int 0 0, Value.int 0 0, Value.int 3 0, Value.ref 231, Value.bool Bool.true, Value.int 181 0, Value.ref 232, Value.none, Value.ref 233, Value.ref 234, Value.ref 235, Value.int 499 0, Value.int 160 0, Value.str (Str.ofString "/claim/cut.py") 500]) #[]) ::
  (nat_lit 237, ⟨Value.type "function", none, .func (mkF (Str.ofString "r_mark_regions") (Str.ofString "ArmenianStemmer.r_mark_regions") (fnC 6 3) (Value.none) (Value.none) (Value.none) (Value.str (Str.ofString "snowballstemmer.armenian_stemmer") 459) (none) (Value.ref 236) (Value.none)), #[]⟩) ::
  (nat_lit 243, Obj.mk (Value.type "code") none (Data.fields #[Value.str (Str.ofString "r_adjective") 502, Value.str (Str.ofString "ArmenianStemmer.r_adjective") 503, Value.str (Str.ofString "/claim/cut.py") 504, Value.int 184 0, Value.int 1 0, Value.int 0 0, Value.int 0 0, Value.int 3 0, Value.ref 238, Value.bool Bool.true, Value.int 181 0, Value.ref 239, Value.none, Value.ref 240, Value.ref 241, Value.ref 242, Value.int 506 0, Value.int 184 0, Value.str (Str.ofString "/claim/cut.py") 507]) #[]) ::
  (nat_lit 244, ⟨Value.type "function", none, .func (mkF (Str.ofString "r_adjective") (Str.ofString "ArmenianStemmer.r_adjective") (fnC 6 4) (Value.none) (Value.none) (Value.none) (Value.str (Str.ofString "snowballstemmer.armenian_stemmer") 459) (none) (Value.ref 243) (Value.none)), #[]⟩) ::
  (nat_lit 250, Obj.mk (Value.type "code") none (Data.fields #[Value.str (Str.ofString "r_verb") 509, Value.str (Str.ofString "ArmenianStemmer.r_verb") 510, Value.str (Str.ofString "/claim/cut.py") 511, Value.int 192 0, Value.int 1 0, Value.int 0 0, Value.int 0 0, Value.int 3 0, Value.ref 245, Value.bool Bool.true, Value.int 181 0, Value.ref 246, Value.none, Value.ref 247, Value.ref 248, Value.ref 249, Value.int 513 0, Value.int 192 0, Value.str (Str.ofString "/claim/cut.py") 514]) #[]) ::
  (nat_lit 251, ⟨Value.type "function", none, .func (mkF (Str.ofString "r_verb") (Str.ofString "ArmenianStemmer.r_verb") (fnC 6 5) (Value.none) (Value.none) (Value.none) (Value.str (Str.ofString "snowballstemmer.armenian_stemmer") 459) (none) (Value.ref 250) (Value.none)), #[]⟩) ::
  (nat_lit 257, Obj.mk (Value.type "code") none (Data.fields #[Value.str (Str.ofString "r_noun") 516, Value.str (Str.ofString "ArmenianStemmer.r_noun") 517, Value.str (Str.ofString "/claim/cut.py") 518, Value.int 200 0, Value.int 1 0, Value.int 0 0, Value.int 0 0, Value.int 3 0, Value.ref 252, Value.bool Bool.true, Value.int 181 0, Value.ref 253, Value.none, Value.ref 254, Value.ref 255, Value.ref 256, Value.int 520 0, Value.int 200 0, Value.str (Str.ofString "/claim/cut.py") 521]) #[]) ::
  (nat_lit 258, ⟨Value.type "function", none, .func (mkF (Str.ofString "r_noun") (Str.ofString "ArmenianStemmer.r_noun") (fnC 6 6) (Value.none) (Value.none) (Value.none) (Value.str (Str.ofString "snowballstemmer.armenian_stemmer") 459) (none) (Value.ref 257) (Value.none)), #[]⟩) ::
  (nat_lit 264, Obj.mk (Value.type "code") none (Data.fields #[Value.str (Str.ofString "r_ending") 523, Value.str (Str.ofString "ArmenianStemmer.r_ending") 524, Value.str (Str.ofString "/claim/cut.py") 525, Value.int 208 0, Value.int 1 0, Value.int 0 0, Value.int 0 0, Value.int 3 0, Value.ref 259, Value.bool Bool.true, Value.int 181 0, Value.ref 260, Value.none, Value.ref 261, Value.ref 262, Value.ref 263, Value.int 527 0, Value.int 208 0, Value.str (Str.ofString "/claim/cut.py") 528]) #[]) ::
  (nat_lit 265, ⟨Value.type "function", none, .func (mkF (Str.ofString "r_ending") (Str.ofString "ArmenianStemmer.r_ending") (fnC 6 7) (Value.none) (Value.none) (Value.none) (Value.str (Str.ofString "snowballstemmer.armenian_stemmer") 459) (none) (Value.ref 264) (Value.none)), #[]⟩) ::
  (nat_lit 271, Obj.mk (Value.type "code") none (Data.fields #[Value.str (Str.ofString "_stem") 530, Value.str (Str.ofString "ArmenianStemmer._stem") 531, Value.str (Str.ofString "/claim/cut.py") 532, Value.int 218 0, Value.int 1 0, Value.int 0 0, Value.int 0 0, Value.int 3 0, Value.ref 266, Value.bool Bool.true, Value.int 181 0, Value.ref 267, Value.none, Value.ref 268, Value.ref 269, Value.ref 270, Value.int 539 0, Value.int 218 0, Value.str (Str.ofString "/claim/cut.py") 540]) #[]) ::
  (nat_lit 272, ⟨Value.type "function", none, .func (mkF (Str.ofString "_stem") (Str.ofString "ArmenianStemmer._stem") (fnC 6 8) (Value.none) (Value.none) (Value.none) (Value.str (Str.ofString "snowballstemmer.armenian_stemmer") 459) (none) (Value.ref 271) (Value.none)), #[]⟩) ::
  (nat_lit 342, Obj.mk (Value.type "list") none (Data.seq (tabRefs 273 23).toArray 0) #[]) ::
  (nat_lit 556, Obj.mk (Value.type "list") none (Data.seq (tabRefs 343 71).toArray 0) #[]) ::
  (nat_lit 677, Obj.mk (Value.type "list") none (Data.seq (tabRefs 557 40).toArray 0) #[]) ::
  (nat_lit 849, Obj.mk (Value.type "list") none (Data.seq (tabRefs 678 57).toArray 0) #[]) ::
  (nat_lit 851, Obj.mk (Value.type "dict") none (Data.dict #[DictEntry.mk (PyData.keyHash P (Str.ofString "__module__")) (Value.str (Str.ofString "__module__") 468) (Value.str (Str.ofString "snowballstemmer.armenian_stemmer") 459), DictEntry.mk (PyData.keyHash P (Str.ofString "__firstlineno__")) (Value.str (Str.ofString "__firstlineno__") 472) (Value.int 155 471), DictEntry.mk (PyData.keyHash P (Str.ofString "g_v")) (Value.str (Str.ofString "g_v") 489) (Value.ref 230), DictEntry.mk (PyData.keyHash P (Str.ofString "I_p2")) (Value.str (Str.ofString "I_p2") 491) (Value.int 0 490), DictEntry.mk (PyData.keyHash P (Str.ofString "I_pV")) (Value.str (Str.ofString "I_pV") 493) (Value.int 0 492), DictEntry.mk (PyData.keyHash P (Str.ofString "r_mark_regions")) (Value.str (Str.ofString "r_mark_regions") 501) (Value.ref 237), DictEntry.mk (PyData.keyHash P (Str.ofString "r_adjective")) (Value.str (Str.ofString "r_adjective") 508) (Value.ref 244), DictEntry.mk (PyData.keyHash P (Str.ofString "r_verb")) (Value.str (Str.ofString "r_verb") 515) (Value.ref 251), DictEntry.mk (PyData.keyHash P (Str.ofString "r_noun")) (Value.str (Str.ofString "r_noun") 522) (Value.ref 258), DictEntry.mk (PyData.keyHash P (Str.ofString "r_ending")) (Value.str (Str.ofString "r_ending") 529) (Value.ref 265), DictEntry.mk (PyData.keyHash P (Str.ofString "_stem")) (Value.str (Str.ofString "_stem") 541) (Value.ref 272), DictEntry.mk (PyData.keyHash P (Str.ofString "a_0")) (Value.str (Str.ofString "a_0") 859) (Value.ref 342), DictEntry.mk (PyData.keyHash P (Str.ofString "a_1")) (Value.str (Str.ofString "a_1") 1819) (Value.ref 556), DictEntry.mk (PyData.keyHash P (Str.ofString "a_2")) (Value.str (Str.ofString "a_2") 2361) (Value.ref 677), DictEntry.mk (PyData.keyHash P (Str.ofString "a_3")) (Value.str (Str.ofString "a_3") 3119) (Value.ref 849), DictEntry.mk (PyData.keyHash P (Str.ofString "__static_attributes__")) (Value.str (Str.ofString "__static_attributes__") 3126) (Value.ref 850), DictEntry.mk (PyData.keyHash P (Str.ofString "__doc__")) (Value.str (Str.ofString "__doc__") 3127) Value.none] 2) #[]) ::
  (nat_lit 852, Obj.mk (Value.type "type") none (Data.cls (PySem.ClassData.mk (Str.ofString "ArmenianStemmer") [Value.ref 197] [Value.ref 852, Value.ref 197, Value.type "object"] 851 (Str.ofString "ArmenianStemmer") Bool.true [] [] Bool.false none Bool.false)) #[some (Value.ref 223), none, some (Value.str (Str.ofString "ArmenianStemmer") 461), some (Value.str (Str.ofString "ArmenianStemmer") 469), some (Value.builtin "object.__new__"), some (Value.bool Bool.true)]) ::
  (nat_lit 863, Obj.mk (Value.type "dict") none (Data.dict #[DictEntry.mk (PyData.keyHash P (Str.ofString "__module__")) (Value.str (Str.ofString "__module__") 3137) (Value.str (Str.ofString "snowballstemmer.armenian_stemmer") 459), DictEntry.mk (PyData.keyHash P (Str.ofString "__firstlineno__")) (Value.str (Str.ofString "__firstlineno__") 3141) (Value.int 245 3140), DictEntry.mk (PyData.keyHash P (Str.ofString "__static_attributes__")) (Value.str (Str.ofString "__static_attributes__") 3142) (Value.ref 862), DictEntry.mk (PyData.keyHash P (Str.ofString "__weakref__")) (Value.str (Str.ofString "__weakref__") 3144) (Value.ref 865), DictEntry.mk (PyData.keyHash P (Str.ofString "__doc__")) (Value.str (Str.ofString "__doc__") 3145) Value.none] 3) #[]) ::
  (nat_lit 864, Obj.mk (Value.type "type") none (Data.cls (PySem.ClassData.mk (Str.ofString "lab0") [Value.type "Exception"] [Value.ref 864, Value.type "Exception", Value.type "BaseException", Value.type "object"] 863 (Str.ofString "lab0") Bool.true [] [] Bool.false none Bool.false)) #[some (Value.ref 855), none, some (Value.str (Str.ofString "lab0") 3130), some (Value.str (Str.ofString "lab0") 3138), some (Value.builtin "Exception.__new__"), some (Value.bool Bool.true)]) ::
  (nat_lit 868, Obj.mk (Value.type "list") none (Data.seq (Value.str (Str.ofString "սա") 3160 :: Value.str (Str.ofString "վա") 3161 :: Value.str (Str.ofString "ամբ") 3162 :: Value.str (Str.ofString "դ") 3163 :: Value.str (Str.ofString "անդ") 3164 :: Value.str (Str.ofString "ությանդ") 3165 :: Value.str (Str.ofString "վանդ") 3166 :: Value.str (Str.ofString "ոջդ") 3167 :: Value.str (Str.ofString "երդ") 3168 :: Value.str (Str.ofString "ներդ") 3169 :: Value.str (Str.ofString "ուդ") 3170 :: Value.str (Str.ofString "ը") 3171 :: Value.str (Str.ofString "անը") 3172 :: Value.str (Str.ofString "ությանը") 3173 :: Value.str (Str.ofString "վանը") 3174 :: Value.str (Str.ofString "ոջը") 3175 :: Value.str (Str.ofString "երը") 3176 :: Value.str (Str.ofString "ները") 3177 :: Value.str (Str.ofString "ի") 3178 :: Value.str (Str.ofString "վի") 3179 :: Value.str (Str.ofString "երի") 3180 :: Value.str (Str.ofString "ների") 3181 :: Value.str (Str.ofString "անում") 3182 :: Value.str (Str.ofString "երում") 3183 :: Value.str (Str.ofString "ներում") 3184 :: Value.str (Str.ofString "ն") 3185 :: Value.str (Str.ofString "ան") 3186 :: Value.str (Str.ofString "ության") 3187 :: Value.str (Str.ofString "վան") 3188 :: Value.str (Str.ofString "ին") 3189 :: Value.str (Str.ofString "երին") 3190 :: Value.str (Str.ofString "ներին") 3191 :: Value.str (Str.ofString "ությանն") 3192 :: Value.str (Str.ofString "երն") 3193 :: Value.str (Str.ofString "ներն") 3194 :: Value.str (Str.ofString "ուն") 3195 :: Value.str (Str.ofString "ոջ") 3196 :: Value.str (Str.ofString "ությանս") 3197 :: Value.str (Str.ofString "վանս") 3198 :: Value.str (Str.ofString "ոջս") 3199 :: Value.str (Str.ofString "ով") 3200 :: Value.str (Str.ofString "անով") 3201 :: Value.str (Str.ofString "վով") 3202 :: Value.str (Str.ofString "երով") 3203 :: Value.str (Str.ofString "ներով") 3204 :: Value.str (Str.ofString "եր") 3205 :: Value.str (Str.ofString "ներ") 3206 :: Value.str (Str.ofString "ց") 3207 :: Value.str (Str.ofString "ից") 3208 :: Value.str (Str.ofString "վանից") 3209 :: Value.str (Str.ofString "ոջից") 3210 :: Value.str (Str.ofString "վից") 3211 :: Value.str (Str.ofString "երից") 3212 :: Value.str (Str.ofString "ներից") 3213 :: Value.str (Str.ofString "ցից") 3214 :: Value.str (Str.ofString "ոց") 3215 :: Value.str (Str.ofString "ուց") 3216 :: []).toArray) #[]) ::
  (nat_lit 869, Obj.mk (Value.type "list") none (Data.seq #[Value.str (Str.ofString "ներդ") 3218, Value.str (Str.ofString "ները") 3219, Value.str (Str.ofString "ների") 3220, Value.str (Str.ofString "ներում") 3221, Value.str (Str.ofString "ներին") 3222, Value.str (Str.ofString "ներն") 3223, Value.str (Str.ofString "ներով") 3224, Value.str (Str.ofString "ներ") 3225, Value.str (Str.ofString "ներից") 3226]) #[]) ::
  (nat_lit 870, Obj.mk (Value.type "list") none (Data.seq #[Value.str (Str.ofString "") 3228, Value.str (Str.ofString "որդ") 3229, Value.str (Str.ofString "ույթ") 3230, Value.str (Str.ofString "ուհի") 3231, Value.str (Str.ofString "ցի") 3232, Value.str (Str.ofString "իլ") 3233, Value.str (Str.ofString "ակ") 3234, Value.str (Str.ofString "յակ") 3235, Value.str (Str.ofString "անակ") 3236, Value.str (Str.ofString "իկ") 3237, Value.str (Str.ofString "ուկ") 3238, Value.str (Str.ofString "ան") 3239, Value.str (Str.ofString "եղէն") 3240, Value.str (Str.ofString "յուն") 3241, Value.str (Str.ofString "ություն") 3242, Value.str (Str.ofString "ածո") 3243, Value.str (Str.ofString "իչ") 3244, Value.str (Str.ofString "ուս") 3245, Value.str (Str.ofString "ուստ") 3246, Value.str (Str.ofString "վոր") 3247, Value.str (Str.ofString "ավոր") 3248, Value.str (Str.ofString "ոց") 3249, Value.str (Str.ofString "անօց") 3250, Value.str (Str.ofString "ու") 3251, Value.str (Str.ofString "ք") 3252, Value.str (Str.ofString "չեք") 3253, Value.str (Str.ofString "իք") 3254, Value.str (Str.ofString "ալիք") 3255, Value.str (Str.ofString "անիք") 3256, Value.str (Str.ofString "վածք") 3257, Value.str (Str.ofString "ույք") 3258, Value.str (Str.ofString "ենք") 3259, Value.str (Str.ofString "ոնք") 3260, Value.str (Str.ofString "ունք") 3261, Value.str (Str.ofString "մունք") 3262, Value.str (Str.ofString "իչք") 3263, Value.str (Str.ofString "արք") 3264]) #[]) ::
  (nat_lit 871, Obj.mk (Value.type "list") none (Data.seq #[Value.str (Str.ofString "") 3266, Value.str (Str.ofString "րորդ") 3267, Value.str (Str.ofString "երորդ") 3268, Value.str (Str.ofString "ալի") 3269, Value.str (Str.ofString "ակի") 3270, Value.str (Str.ofString "որակ") 3271, Value.str (Str.ofString "եղ") 3272, Value.str (Str.ofString "են") 3273, Value.str (Str.ofString "եկեն") 3274, Value.str (Str.ofString "երեն") 3275, Value.str (Str.ofString "որէն") 3276, Value.str (Str.ofString "ին") 3277, Value.str (Str.ofString "գին") 3278, Value.str (Str.ofString "ովին") 3279, Value.str (Str.ofString "լայն") 3280, Value.str (Str.ofString "վուն") 3281, Value.str (Str.ofString "պես") 3282, Value.str (Str.ofString "իվ") 3283, Value.str (Str.ofString "ատ") 3284, Value.str (Str.ofString "ավետ") 3285, Value.str (Str.ofString "կոտ") 3286]) #[]) ::
  (nat_lit 872, Obj.mk (Value.type "list") none (Data.seq (Value.str (Str.ofString "ա") 3288 :: Value.str (Str.ofString "ացա") 3289 :: Value.str (Str.ofString "եցա") 3290 :: Value.str (Str.ofString "վե") 3291 :: Value.str (Str.ofString "ացրի") 3292 :: Value.str (Str.ofString "ացի") 3293 :: Value.str (Str.ofString "եցի") 3294 :: Value.str (Str.ofString "վեցի") 3295 :: Value.str (Str.ofString "ալ") 3296 :: Value.str (Str.ofString "ըալ") 3297 :: Value.str (Str.ofString "անալ") 3298 :: Value.str (Str.ofString "ենալ") 3299 :: Value.str (Str.ofString "ացնալ") 3300 :: Value.str (Str.ofString "ել") 3301 :: Value.str (Str.ofString "ըել") 3302 :: Value.str (Str.ofString "նել") 3303 :: Value.str (Str.ofString "ցնել") 3304 :: Value.str (Str.ofString "եցնել") 3305 :: Value.str (Str.ofString "չել") 3306 :: Value.str (Str.ofString "վել") 3307 :: Value.str (Str.ofString "ացվել") 3308 :: Value.str (Str.ofString "եցվել") 3309 :: Value.str (Str.ofString "տել") 3310 :: Value.str (Str.ofString "ատել") 3311 :: Value.str (Str.ofString "ոտել") 3312 :: Value.str (Str.ofString "կոտել") 3313 :: Value.str (Str.ofString "ված") 3314 :: Value.str (Str.ofString "ում") 3315 :: Value.str (Str.ofString "վում") 3316 :: Value.str (Str.ofString "ան") 3317 :: Value.str (Str.ofString "ցան") 3318 :: Value.str (Str.ofString "ացան") 3319 :: Value.str (Str.ofString "ացրին") 3320 :: Value.str (Str.ofString "ացին") 3321 :: Value.str (Str.ofString "եցին") 3322 :: Value.str (Str.ofString "վեցին") 3323 :: Value.str (Str.ofString "ալիս") 3324 :: Value.str (Str.ofString "ելիս") 3325 :: Value.str (Str.ofString "ավ") 3326 :: Value.str (Str.ofString "ացավ") 3327 :: Value.str (Str.ofString "եցավ") 3328 :: Value.str (Str.ofString "ալով") 3329 :: Value.str (Str.ofString "ելով") 3330 :: Value.str (Str.ofString "ար") 3331 :: Value.str (Str.ofString "ացար") 3332 :: Value.str (Str.ofString "եցար") 3333 :: Value.str (Str.ofString "ացրիր") 3334 :: Value.str (Str.ofString "ացիր") 3335 :: Value.str (Str.ofString "եցիր") 3336 :: Value.str (Str.ofString "վեցիր") 3337 :: Value.str (Str.ofString "աց") 3338 :: Value.str (Str.ofString "եց") 3339 :: Value.str (Str.ofString "ացրեց") 3340 :: Value.str (Str.ofString "ալուց") 3341 :: Value.str (Str.ofString "ելուց") 3342 :: Value.str (Str.ofString "ալու") 3343 :: Value.str (Str.ofString "ելու") 3344 :: Value.str (Str.ofString "աք") 3345 :: Value.str (Str.ofString "ցաք") 3346 :: Value.str (Str.ofString "ացաք") 3347 :: Value.str (Str.ofString "ացրիք") 3348 :: Value.str (Str.ofString "ացիք") 3349 :: Value.str (Str.ofString "եցիք") 3350 :: Value.str (Str.ofString "վեցիք") 3351 :: Value.str (Str.ofString "անք") 3352 :: Value.str (Str.ofString "ցանք") 3353 :: Value.str (Str.ofString "ացանք") 3354 :: Value.str (Str.ofString "ացրինք") 3355 :: Value.str (Str.ofString "ացինք") 3356 :: Value.str (Str.ofString "եցինք") 3357 :: Value.str (Str.ofString "վեցինք") 3358 :: []).toArray) #[]) ::
  (nat_lit 878, Obj.mk (Value.type "code") none (Data.fields #[Value.str (Str.ofString "_law_at") 3360, Value.str (Str.ofString "_law_at") 3361, Value.str (Str.ofString "/claim/cut.py") 3362, Value.int 257 0, Value.int 2 0, Value.int 0 0, Value.int 0 0, Value.int 3 0, Value.ref 873, Value.bool Bool.true, Value.int 181 0, Value.ref 874, Value.none, Value.ref 875, Value.ref 876, Value.ref 877, Value.int 3365 0, Value.int 257 0, Value.str (Str.ofString "/claim/cut.py") 3366]) #[]) ::
  (nat_lit 879, ⟨Value.type "function", none, .func (mkF (Str.ofString "_law_at") (Str.ofString "_law_at") (fnT 18) (Value.none) (Value.none) (Value.none) (Value.str (Str.ofString "law_ak0021_01") 3150) (none) (Value.ref 878) (Value.none)), #[]⟩) ::
  (nat_lit 885, Obj.mk (Value.type "code") none (Data.fields #[Value.str (Str.ofString "_law_sign") 3368, Value.str (Str.ofString "_law_sign") 3369, Value.str (Str.ofString "/claim/cut.py") 3370, Value.int 259 0, Value.int 1 0, Value.int 0 0, Value.int 0 0, Value.int 3 0, Value.ref 880, Value.bool Bool.true, Value.int 181 0, Value.ref 881, Value.none, Value.ref 882, Value.ref 883, Value.ref 884, Value.int 3373 0, Value.int 259 0, Value.str (Str.ofString "/claim/cut.py") 3374]) #[]) ::
  (nat_lit 886, ⟨Value.type "function", none, .func (mkF (Str.ofString "_law_sign") (Str.ofString "_law_sign") (fnT 19) (Value.none) (Value.none) (Value.none) (Value.str (Str.ofString "law_ak0021_01") 3150) (none) (Value.ref 885) (Value.none)), #[]⟩) ::
  (nat_lit 892, Obj.mk (Value.type "code") none (Data.fields #[Value.str (Str.ofString "_law_pick") 3376, Value.str (Str.ofString "_law_pick") 3377, Value.str (Str.ofString "/claim/cut.py") 3378, Value.int 262 0, Value.int 2 0, Value.int 0 0, Value.int 0 0, Value.int 3 0, Value.ref 887, Value.bool Bool.true, Value.int 181 0, Value.ref 888, Value.none, Value.ref 889, Value.ref 890, Value.ref 891, Value.int 3381 0, Value.int 262 0, Value.str (Str.ofString "/claim/cut.py") 3382]) #[]) ::
  (nat_lit 893, ⟨Value.type "function", none, .func (mkF (Str.ofString "_law_pick") (Str.ofString "_law_pick") (fnT 20) (Value.none) (Value.none) (Value.none) (Value.str (Str.ofString "law_ak0021_01") 3150) (none) (Value.ref 892) (Value.none)), #[]⟩) ::
  (nat_lit 897, Obj.mk (Value.type "code") none (Data.fields #[Value.str (Str.ofString "law") 3384, Value.str (Str.ofString "law") 3385, Value.str (Str.ofString "/claim/cut.py") 3386, Value.int 264 0, Value.int 1 0, Value.int 0 0, Value.int 0 0, Value.int 3 0, Value.ref 894, Value.bool Bool.true, Value.int 181 0, Value.ref 895, Value.none, Value.none, Value.none, Value.ref 896, Value.int 3387 0, Value.int 264 0, Value.str (Str.ofString "/claim/cut.py") 3388]) #[]) ::
  (nat_lit 898, ⟨Value.type "function", none, .func (mkF (Str.ofString "law") (Str.ofString "law") (fnT 21) (Value.none) (Value.none) (Value.none) (Value.str (Str.ofString "law_ak0021_01") 3150) (none) (Value.ref 897) (Value.none)), #[]⟩) :: []
noncomputable def use {α : Type} (_ : α) : Bool := true
end Mine
end
section
open PySem PySem.W PyProof.Rows
set_option maxRecDepth 100000
set_option maxHeartbeats 0
set_option linter.unusedVariables false
namespace Mine
noncomputable def q0_ : Str := ⟨⟨[115]⟩⟩
noncomputable def q1_ : Str := ⟨⟨[115, 117, 98, 115, 116, 114, 105, 110, 103, 95, 105]⟩⟩
noncomputable def q2_ : Str := ⟨⟨[114, 101, 115, 117, 108, 116]⟩⟩
noncomputable def q3_ : Str := ⟨⟨[115, 101, 108, 102]⟩⟩
noncomputable def q4_ : Str := ⟨⟨[1408, 1400, 1408, 1380]⟩⟩
noncomputable def q5_ : Str := ⟨⟨[1381, 1408, 1400, 1408, 1380]⟩⟩
noncomputable def q6_ : Str := ⟨⟨[1377, 1388, 1387]⟩⟩
noncomputable def q7_ : Str := ⟨⟨[1377, 1391, 1387]⟩⟩
noncomputable def q8_ : Str := ⟨⟨[1400, 1408, 1377, 1391]⟩⟩
noncomputable def q9_ : Str := ⟨⟨[1381, 1394]⟩⟩
noncomputable def q10_ : Str := ⟨⟨[1377, 1391, 1377, 1398]⟩⟩
noncomputable def q11_ : Str := ⟨⟨[1377, 1408, 1377, 1398]⟩⟩
noncomputable def q12_ : Str := ⟨⟨[1381, 1398]⟩⟩
noncomputable def q13_ : Str := ⟨⟨[1381, 1391, 1381, 1398]⟩⟩
noncomputable def q14_ : Str := ⟨⟨[1381, 1408, 1381, 1398]⟩⟩
noncomputable def q15_ : Str := ⟨⟨[1400, 1408, 1383, 1398]⟩⟩
noncomputable def q16_ : Str := ⟨⟨[1387, 1398]⟩⟩
noncomputable def q17_ : Str := ⟨⟨[1379, 1387, 1398]⟩⟩
noncomputable def q18_ : Str := ⟨⟨[1400, 1406, 1387, 1398]⟩⟩
noncomputable def q19_ : Str := ⟨⟨[1388, 1377, 1397, 1398]⟩⟩
noncomputable def q20_ : Str := ⟨⟨[1406, 1400, 1410, 1398]⟩⟩
noncomputable def q21_ : Str := ⟨⟨[1402, 1381, 1405]⟩⟩
noncomputable def q22_ : Str := ⟨⟨[1387, 1406]⟩⟩
noncomputable def q23_ : Str := ⟨⟨[1377, 1407]⟩⟩
noncomputable def q24_ : Str := ⟨⟨[1377, 1406, 1381, 1407]⟩⟩
noncomputable def q25_ : Str := ⟨⟨[1391, 1400, 1407]⟩⟩
noncomputable def q26_ : Str := ⟨⟨[1378, 1377, 1408]⟩⟩
noncomputable def q27_ : Str := ⟨⟨[1377]⟩⟩
noncomputable def q28_ : Str := ⟨⟨[1377, 1409, 1377]⟩⟩
noncomputable def q29_ : Str := ⟨⟨[1381, 1409, 1377]⟩⟩
noncomputable def q30_ : Str := ⟨⟨[1406, 1381]⟩⟩
noncomputable def q31_ : Str := ⟨⟨[1377, 1409, 1408, 1387]⟩⟩
noncomputable def q32_ : Str := ⟨⟨[1377, 1409, 1387]⟩⟩
noncomputable def q33_ : Str := ⟨⟨[1381, 1409, 1387]⟩⟩
noncomputable def q34_ : Str := ⟨⟨[1406, 1381, 1409, 1387]⟩⟩
noncomputable def q35_ : Str := ⟨⟨[1377, 1388]⟩⟩
noncomputable def q36_ : Str := ⟨⟨[1384, 1377, 1388]⟩⟩
noncomputable def q37_ : Str := ⟨⟨[1377, 1398, 1377, 1388]⟩⟩
noncomputable def q38_ : Str := ⟨⟨[1381, 1398, 1377, 1388]⟩⟩
noncomputable def q39_ : Str := ⟨⟨[1377, 1409, 1398, 1377, 1388]⟩⟩
noncomputable def q40_ : Str := ⟨⟨[1381, 1388]⟩⟩
noncomputable def q41_ : Str := ⟨⟨[1384, 1381, 1388]⟩⟩
noncomputable def q42_ : Str := ⟨⟨[1398, 1381, 1388]⟩⟩
noncomputable def q43_ : Str := ⟨⟨[1409, 1398, 1381, 1388]⟩⟩
noncomputable def q44_ : Str := ⟨⟨[1381, 1409, 1398, 1381, 1388]⟩⟩
noncomputable def q45_ : Str := ⟨⟨[1401, 1381, 1388]⟩⟩
noncomputable def q46_ : Str := ⟨⟨[1406, 1381, 1388]⟩⟩
noncomputable def q47_ : Str := ⟨⟨[1377, 1409, 1406, 1381, 1388]⟩⟩
noncomputable def q48_ : Str := ⟨⟨[1381, 1409, 1406, 1381, 1388]⟩⟩
noncomputable def q49_ : Str := ⟨⟨[1407, 1381, 1388]⟩⟩
noncomputable def q50_ : Str := ⟨⟨[1377, 1407, 1381, 1388]⟩⟩
noncomputable def q51_ : Str := ⟨⟨[1400, 1407, 1381, 1388]⟩⟩
noncomputable def q52_ : Str := ⟨⟨[1391, 1400, 1407, 1381, 1388]⟩⟩
noncomputable def q53_ : Str := ⟨⟨[1406, 1377, 1390]⟩⟩
noncomputable def q54_ : Str := ⟨⟨[1400, 1410, 1396]⟩⟩
noncomputable def q55_ : Str := ⟨⟨[1406, 1400, 1410, 1396]⟩⟩
noncomputable def q56_ : Str := ⟨⟨[1377, 1398]⟩⟩
noncomputable def q57_ : Str := ⟨⟨[1409, 1377, 1398]⟩⟩
noncomputable def q58_ : Str := ⟨⟨[1377, 1409, 1377, 1398]⟩⟩
noncomputable def q59_ : Str := ⟨⟨[1377, 1409, 1408, 1387, 1398]⟩⟩
noncomputable def q60_ : Str := ⟨⟨[1377, 1409, 1387, 1398]⟩⟩
noncomputable def q61_ : Str := ⟨⟨[1381, 1409, 1387, 1398]⟩⟩
noncomputable def q62_ : Str := ⟨⟨[1406, 1381, 1409, 1387, 1398]⟩⟩
noncomputable def q63_ : Str := ⟨⟨[1377, 1388, 1387, 1405]⟩⟩
noncomputable def q64_ : Str := ⟨⟨[1381, 1388, 1387, 1405]⟩⟩
noncomputable def q65_ : Str := ⟨⟨[1377, 1406]⟩⟩
noncomputable def q66_ : Str := ⟨⟨[1377, 1409, 1377, 1406]⟩⟩
noncomputable def q67_ : Str := ⟨⟨[1381, 1409, 1377, 1406]⟩⟩
noncomputable def q68_ : Str := ⟨⟨[1377, 1388, 1400, 1406]⟩⟩
noncomputable def q69_ : Str := ⟨⟨[1381, 1388, 1400, 1406]⟩⟩
noncomputable def q70_ : Str := ⟨⟨[1377, 1408]⟩⟩
noncomputable def q71_ : Str := ⟨⟨[1377, 1409, 1377, 1408]⟩⟩
noncomputable def q72_ : Str := ⟨⟨[1381, 1409, 1377, 1408]⟩⟩
noncomputable def q73_ : Str := ⟨⟨[1377, 1409, 1408, 1387, 1408]⟩⟩
noncomputable def q74_ : Str := ⟨⟨[1377, 1409, 1387, 1408]⟩⟩
noncomputable def q75_ : Str := ⟨⟨[1381, 1409, 1387, 1408]⟩⟩
noncomputable def q76_ : Str := ⟨⟨[1406, 1381, 1409, 1387, 1408]⟩⟩
noncomputable def q77_ : Str := ⟨⟨[1377, 1409]⟩⟩
noncomputable def q78_ : Str := ⟨⟨[1381, 1409]⟩⟩
noncomputable def q79_ : Str := ⟨⟨[1377, 1409, 1408, 1381, 1409]⟩⟩
noncomputable def q80_ : Str := ⟨⟨[1377, 1388, 1400, 1410, 1409]⟩⟩
noncomputable def q81_ : Str := ⟨⟨[1381, 1388, 1400, 1410, 1409]⟩⟩
noncomputable def q82_ : Str := ⟨⟨[1377, 1388, 1400, 1410]⟩⟩
noncomputable def q83_ : Str := ⟨⟨[1381, 1388, 1400, 1410]⟩⟩
noncomputable def q84_ : Str := ⟨⟨[1377, 1412]⟩⟩
noncomputable def q85_ : Str := ⟨⟨[1409, 1377, 1412]⟩⟩
noncomputable def q86_ : Str := ⟨⟨[1377, 1409, 1377, 1412]⟩⟩
noncomputable def q87_ : Str := ⟨⟨[1377, 1409, 1408, 1387, 1412]⟩⟩
noncomputable def q88_ : Str := ⟨⟨[1377, 1409, 1387, 1412]⟩⟩
noncomputable def q89_ : Str := ⟨⟨[1381, 1409, 1387, 1412]⟩⟩
noncomputable def q90_ : Str := ⟨⟨[1406, 1381, 1409, 1387, 1412]⟩⟩
noncomputable def q91_ : Str := ⟨⟨[1377, 1398, 1412]⟩⟩
noncomputable def q92_ : Str := ⟨⟨[1409, 1377, 1398, 1412]⟩⟩
noncomputable def q93_ : Str := ⟨⟨[1377, 1409, 1377, 1398, 1412]⟩⟩
noncomputable def q94_ : Str := ⟨⟨[1377, 1409, 1408, 1387, 1398, 1412]⟩⟩
noncomputable def q95_ : Str := ⟨⟨[1377, 1409, 1387, 1398, 1412]⟩⟩
noncomputable def q96_ : Str := ⟨⟨[1381, 1409, 1387, 1398, 1412]⟩⟩
noncomputable def q97_ : Str := ⟨⟨[1406, 1381, 1409, 1387, 1398, 1412]⟩⟩
noncomputable def q98_ : Str := ⟨⟨[1400, 1408, 1380]⟩⟩
noncomputable def q99_ : Str := ⟨⟨[1400, 1410, 1397, 1385]⟩⟩
noncomputable def q100_ : Str := ⟨⟨[1400, 1410, 1392, 1387]⟩⟩
noncomputable def q101_ : Str := ⟨⟨[1409, 1387]⟩⟩
noncomputable def q102_ : Str := ⟨⟨[1387, 1388]⟩⟩
noncomputable def q103_ : Str := ⟨⟨[1377, 1391]⟩⟩
noncomputable def q104_ : Str := ⟨⟨[1397, 1377, 1391]⟩⟩
noncomputable def q105_ : Str := ⟨⟨[1377, 1398, 1377, 1391]⟩⟩
noncomputable def q106_ : Str := ⟨⟨[1387, 1391]⟩⟩
noncomputable def q107_ : Str := ⟨⟨[1400, 1410, 1391]⟩⟩
noncomputable def q108_ : Str := ⟨⟨[1402, 1377, 1398]⟩⟩
noncomputable def q109_ : Str := ⟨⟨[1405, 1407, 1377, 1398]⟩⟩
noncomputable def q110_ : Str := ⟨⟨[1381, 1394, 1383, 1398]⟩⟩
noncomputable def q111_ : Str := ⟨⟨[1397, 1400, 1410, 1398]⟩⟩
noncomputable def q112_ : Str := ⟨⟨[1400, 1410, 1385, 1397, 1400, 1410, 1398]⟩⟩
noncomputable def q113_ : Str := ⟨⟨[1377, 1390, 1400]⟩⟩
noncomputable def q114_ : Str := ⟨⟨[1387, 1401]⟩⟩
noncomputable def q115_ : Str := ⟨⟨[1400, 1410, 1405]⟩⟩
noncomputable def q116_ : Str := ⟨⟨[1400, 1410, 1405, 1407]⟩⟩
noncomputable def q117_ : Str := ⟨⟨[1379, 1377, 1408]⟩⟩
noncomputable def q118_ : Str := ⟨⟨[1406, 1400, 1408]⟩⟩
noncomputable def q119_ : Str := ⟨⟨[1377, 1406, 1400, 1408]⟩⟩
noncomputable def q120_ : Str := ⟨⟨[1400, 1409]⟩⟩
noncomputable def q121_ : Str := ⟨⟨[1377, 1398, 1413, 1409]⟩⟩
noncomputable def q122_ : Str := ⟨⟨[1400, 1410]⟩⟩
noncomputable def q123_ : Str := ⟨⟨[1412]⟩⟩
noncomputable def q124_ : Str := ⟨⟨[1401, 1381, 1412]⟩⟩
noncomputable def q125_ : Str := ⟨⟨[1387, 1412]⟩⟩
noncomputable def q126_ : Str := ⟨⟨[1377, 1388, 1387, 1412]⟩⟩
noncomputable def q127_ : Str := ⟨⟨[1377, 1398, 1387, 1412]⟩⟩
noncomputable def q128_ : Str := ⟨⟨[1406, 1377, 1390, 1412]⟩⟩
noncomputable def q129_ : Str := ⟨⟨[1400, 1410, 1397, 1412]⟩⟩
noncomputable def q130_ : Str := ⟨⟨[1381, 1398, 1412]⟩⟩
noncomputable def q131_ : Str := ⟨⟨[1400, 1398, 1412]⟩⟩
noncomputable def q132_ : Str := ⟨⟨[1400, 1410, 1398, 1412]⟩⟩
noncomputable def q133_ : Str := ⟨⟨[1396, 1400, 1410, 1398, 1412]⟩⟩
noncomputable def q134_ : Str := ⟨⟨[1387, 1401, 1412]⟩⟩
noncomputable def q135_ : Str := ⟨⟨[1377, 1408, 1412]⟩⟩
noncomputable def q136_ : Str := ⟨⟨[1405, 1377]⟩⟩
noncomputable def q137_ : Str := ⟨⟨[1406, 1377]⟩⟩
noncomputable def q138_ : Str := ⟨⟨[1377, 1396, 1378]⟩⟩
noncomputable def q139_ : Str := ⟨⟨[1380]⟩⟩
noncomputable def q140_ : Str := ⟨⟨[1377, 1398, 1380]⟩⟩
noncomputable def q141_ : Str := ⟨⟨[1400, 1410, 1385, 1397, 1377, 1398, 1380]⟩⟩
noncomputable def q142_ : Str := ⟨⟨[1406, 1377, 1398, 1380]⟩⟩
noncomputable def q143_ : Str := ⟨⟨[1400, 1403, 1380]⟩⟩
noncomputable def q144_ : Str := ⟨⟨[1381, 1408, 1380]⟩⟩
noncomputable def q145_ : Str := ⟨⟨[1398, 1381, 1408, 1380]⟩⟩
noncomputable def q146_ : Str := ⟨⟨[1400, 1410, 1380]⟩⟩
noncomputable def q147_ : Str := ⟨⟨[1384]⟩⟩
noncomputable def q148_ : Str := ⟨⟨[1377, 1398, 1384]⟩⟩
noncomputable def q149_ : Str := ⟨⟨[1400, 1410, 1385, 1397, 1377, 1398, 1384]⟩⟩
noncomputable def q150_ : Str := ⟨⟨[1406, 1377, 1398, 1384]⟩⟩
noncomputable def q151_ : Str := ⟨⟨[1400, 1403, 1384]⟩⟩
noncomputable def q152_ : Str := ⟨⟨[1381, 1408, 1384]⟩⟩
noncomputable def q153_ : Str := ⟨⟨[1398, 1381, 1408, 1384]⟩⟩
noncomputable def q154_ : Str := ⟨⟨[1387]⟩⟩
noncomputable def q155_ : Str := ⟨⟨[1406, 1387]⟩⟩
noncomputable def q156_ : Str := ⟨⟨[1381, 1408, 1387]⟩⟩
noncomputable def q157_ : Str := ⟨⟨[1398, 1381, 1408, 1387]⟩⟩
noncomputable def q158_ : Str := ⟨⟨[1377, 1398, 1400, 1410, 1396]⟩⟩
noncomputable def q159_ : Str := ⟨⟨[1381, 1408, 1400, 1410, 1396]⟩⟩
noncomputable def q160_ : Str := ⟨⟨[1398, 1381, 1408, 1400, 1410, 1396]⟩⟩
noncomputable def q161_ : Str := ⟨⟨[1398]⟩⟩
noncomputable def q162_ : Str := ⟨⟨[1400, 1410, 1385, 1397, 1377, 1398]⟩⟩
noncomputable def q163_ : Str := ⟨⟨[1406, 1377, 1398]⟩⟩
noncomputable def q164_ : Str := ⟨⟨[1381, 1408, 1387, 1398]⟩⟩
noncomputable def q165_ : Str := ⟨⟨[1398, 1381, 1408, 1387, 1398]⟩⟩
noncomputable def q166_ : Str := ⟨⟨[1400, 1410, 1385, 1397, 1377, 1398, 1398]⟩⟩
noncomputable def q167_ : Str := ⟨⟨[1381, 1408, 1398]⟩⟩
noncomputable def q168_ : Str := ⟨⟨[1398, 1381, 1408, 1398]⟩⟩
noncomputable def q169_ : Str := ⟨⟨[1400, 1410, 1398]⟩⟩
noncomputable def q170_ : Str := ⟨⟨[1400, 1403]⟩⟩
noncomputable def q171_ : Str := ⟨⟨[1400, 1410, 1385, 1397, 1377, 1398, 1405]⟩⟩
noncomputable def q172_ : Str := ⟨⟨[1406, 1377, 1398, 1405]⟩⟩
noncomputable def q173_ : Str := ⟨⟨[1400, 1403, 1405]⟩⟩
noncomputable def q174_ : Str := ⟨⟨[1400, 1406]⟩⟩
noncomputable def q175_ : Str := ⟨⟨[1377, 1398, 1400, 1406]⟩⟩
noncomputable def q176_ : Str := ⟨⟨[1406, 1400, 1406]⟩⟩
noncomputable def q177_ : Str := ⟨⟨[1381, 1408, 1400, 1406]⟩⟩
noncomputable def q178_ : Str := ⟨⟨[1398, 1381, 1408, 1400, 1406]⟩⟩
noncomputable def q179_ : Str := ⟨⟨[1381, 1408]⟩⟩
noncomputable def q180_ : Str := ⟨⟨[1398, 1381, 1408]⟩⟩
noncomputable def q181_ : Str := ⟨⟨[1409]⟩⟩
noncomputable def q182_ : Str := ⟨⟨[1387, 1409]⟩⟩
noncomputable def q183_ : Str := ⟨⟨[1406, 1377, 1398, 1387, 1409]⟩⟩
noncomputable def q184_ : Str := ⟨⟨[1400, 1403, 1387, 1409]⟩⟩
noncomputable def q185_ : Str := ⟨⟨[1406, 1387, 1409]⟩⟩
noncomputable def q186_ : Str := ⟨⟨[1381, 1408, 1387, 1409]⟩⟩
noncomputable def q187_ : Str := ⟨⟨[1398, 1381, 1408, 1387, 1409]⟩⟩
noncomputable def q188_ : Str := ⟨⟨[1409, 1387, 1409]⟩⟩
noncomputable def q189_ : Str := ⟨⟨[1400, 1410, 1409]⟩⟩
noncomputable def q190_ : Str := ⟨⟨[60, 109, 111, 100, 117, 108, 101, 62]⟩⟩
noncomputable def q191_ : Str := ⟨⟨[47, 99, 108, 97, 105, 109, 47, 99, 117, 116, 46, 112, 121]⟩⟩
noncomputable def q192_ : Str := ⟨⟨[95, 95, 109, 97, 105, 110, 95, 95]⟩⟩
noncomputable def q193_ : Str := ⟨⟨[95, 95, 110, 97, 109, 101, 95, 95]⟩⟩
noncomputable def q194_ : Str := ⟨⟨[115, 110, 111, 119, 98, 97, 108, 108, 115, 116, 101, 109, 109, 101, 114, 46, 98, 97, 115, 101, 115, 116, 101, 109, 109, 101, 114]⟩⟩
noncomputable def q195_ : Str := ⟨⟨[95, 95, 100, 111, 99, 95, 95]⟩⟩
noncomputable def q196_ : Str := ⟨⟨[95, 95, 112, 97, 99, 107, 97, 103, 101, 95, 95]⟩⟩
noncomputable def q197_ : Str := ⟨⟨[95, 95, 108, 111, 97, 100, 101, 114, 95, 95]⟩⟩
noncomputable def q198_ : Str := ⟨⟨[95, 95, 115, 112, 101, 99, 95, 95]⟩⟩
noncomputable def q199_ : Str := ⟨⟨[95, 95, 97, 110, 110, 111, 116, 97, 116, 105, 111, 110, 115, 95, 95]⟩⟩
noncomputable def q200_ : Str := ⟨⟨[95, 95, 98, 117, 105, 108, 116, 105, 110, 115, 95, 95]⟩⟩
noncomputable def q201_ : Str := ⟨⟨[95, 95, 102, 105, 108, 101, 95, 95]⟩⟩
noncomputable def q202_ : Str := ⟨⟨[95, 95, 99, 97, 99, 104, 101, 100, 95, 95]⟩⟩
noncomputable def q203_ : Str := ⟨⟨[95, 119, 97, 108, 108]⟩⟩
noncomputable def q204_ : Str := ⟨⟨[66, 97, 115, 101, 83, 116, 101, 109, 109, 101, 114]⟩⟩
noncomputable def q205_ : Str := ⟨⟨[107]⟩⟩
noncomputable def q206_ : Str := ⟨⟨[95, 95, 109, 111, 100, 117, 108, 101, 95, 95]⟩⟩
noncomputable def q207_ : Str := ⟨⟨[95, 95, 113, 117, 97, 108, 110, 97, 109, 101, 95, 95]⟩⟩
noncomputable def q208_ : Str := ⟨⟨[95, 95, 102, 105, 114, 115, 116, 108, 105, 110, 101, 110, 111, 95, 95]⟩⟩
noncomputable def q209_ : Str := ⟨⟨[95, 95, 105, 110, 105, 116, 95, 95]⟩⟩
noncomputable def q210_ : Str := ⟨⟨[115, 101, 116, 95, 99, 117, 114, 114, 101, 110, 116]⟩⟩
noncomputable def q211_ : Str := ⟨⟨[103, 101, 116, 95, 99, 117, 114, 114, 101, 110, 116]⟩⟩
noncomputable def q212_ : Str := ⟨⟨[99, 111, 112, 121, 95, 102, 114, 111, 109]⟩⟩
noncomputable def q213_ : Str := ⟨⟨[105, 110, 95, 103, 114, 111, 117, 112, 105, 110, 103]⟩⟩
noncomputable def q214_ : Str := ⟨⟨[103, 111, 95, 105, 110, 95, 103, 114, 111, 117, 112, 105, 110, 103]⟩⟩
noncomputable def q215_ : Str := ⟨⟨[105, 110, 95, 103, 114, 111, 117, 112, 105, 110, 103, 95, 98]⟩⟩
noncomputable def q216_ : Str := ⟨⟨[103, 111, 95, 105, 110, 95, 103, 114, 111, 117, 112, 105, 110, 103, 95, 98]⟩⟩
noncomputable def q217_ : Str := ⟨⟨[111, 117, 116, 95, 103, 114, 111, 117, 112, 105, 110, 103]⟩⟩
noncomputable def q218_ : Str := ⟨⟨[103, 111, 95, 111, 117, 116, 95, 103, 114, 111, 117, 112, 105, 110, 103]⟩⟩
noncomputable def q219_ : Str := ⟨⟨[111, 117, 116, 95, 103, 114, 111, 117, 112, 105, 110, 103, 95, 98]⟩⟩
noncomputable def q220_ : Str := ⟨⟨[103, 111, 95, 111, 117, 116, 95, 103, 114, 111, 117, 112, 105, 110, 103, 95, 98]⟩⟩
noncomputable def q221_ : Str := ⟨⟨[101, 113, 95, 115]⟩⟩
noncomputable def q222_ : Str := ⟨⟨[101, 113, 95, 115, 95, 98]⟩⟩
noncomputable def q223_ : Str := ⟨⟨[102, 105, 110, 100, 95, 97, 109, 111, 110, 103]⟩⟩
noncomputable def q224_ : Str := ⟨⟨[102, 105, 110, 100, 95, 97, 109, 111, 110, 103, 95, 98]⟩⟩
noncomputable def q225_ : Str := ⟨⟨[114, 101, 112, 108, 97, 99, 101, 95, 115]⟩⟩
noncomputable def q226_ : Str := ⟨⟨[115, 108, 105, 99, 101, 95, 102, 114, 111, 109]⟩⟩
noncomputable def q227_ : Str := ⟨⟨[115, 108, 105, 99, 101, 95, 100, 101, 108]⟩⟩
noncomputable def q228_ : Str := ⟨⟨[105, 110, 115, 101, 114, 116]⟩⟩
noncomputable def q229_ : Str := ⟨⟨[115, 108, 105, 99, 101, 95, 116, 111]⟩⟩
noncomputable def q230_ : Str := ⟨⟨[97, 115, 115, 105, 103, 110, 95, 116, 111]⟩⟩
noncomputable def q231_ : Str := ⟨⟨[115, 116, 101, 109, 87, 111, 114, 100]⟩⟩
noncomputable def q232_ : Str := ⟨⟨[115, 116, 101, 109, 87, 111, 114, 100, 115]⟩⟩
noncomputable def q233_ : Str := ⟨⟨[95, 95, 115, 116, 97, 116, 105, 99, 95, 97, 116, 116, 114, 105, 98, 117, 116, 101, 115, 95, 95]⟩⟩
noncomputable def q234_ : Str := ⟨⟨[66, 97, 115, 101, 83, 116, 101, 109, 109, 101, 114, 46, 95, 95, 105, 110, 105, 116, 95, 95]⟩⟩
noncomputable def q235_ : Str := ⟨⟨[118, 97, 108, 117, 101]⟩⟩
noncomputable def q236_ : Str := ⟨⟨[66, 97, 115, 101, 83, 116, 101, 109, 109, 101, 114, 46, 115, 101, 116, 95, 99, 117, 114, 114, 101, 110, 116]⟩⟩
noncomputable def q237_ : Str := ⟨⟨[66, 97, 115, 101, 83, 116, 101, 109, 109, 101, 114, 46, 103, 101, 116, 95, 99, 117, 114, 114, 101, 110, 116]⟩⟩
noncomputable def q238_ : Str := ⟨⟨[111, 116, 104, 101, 114]⟩⟩
noncomputable def q239_ : Str := ⟨⟨[66, 97, 115, 101, 83, 116, 101, 109, 109, 101, 114, 46, 99, 111, 112, 121, 95, 102, 114, 111, 109]⟩⟩
noncomputable def q240_ : Str := ⟨⟨[66, 97, 115, 101, 83, 116, 101, 109, 109, 101, 114, 46, 105, 110, 95, 103, 114, 111, 117, 112, 105, 110, 103]⟩⟩
noncomputable def q241_ : Str := ⟨⟨[66, 97, 115, 101, 83, 116, 101, 109, 109, 101, 114, 46, 103, 111, 95, 105, 110, 95, 103, 114, 111, 117, 112, 105, 110, 103]⟩⟩
noncomputable def q242_ : Str := ⟨⟨[66, 97, 115, 101, 83, 116, 101, 109, 109, 101, 114, 46, 105, 110, 95, 103, 114, 111, 117, 112, 105, 110, 103, 95, 98]⟩⟩
noncomputable def q243_ : Str := ⟨⟨[66, 97, 115, 101, 83, 116, 101, 109, 109, 101, 114, 46, 103, 111, 95, 105, 110, 95, 103, 114, 111, 117, 112, 105, 110, 103, 95, 98]⟩⟩
noncomputable def q244_ : Str := ⟨⟨[66, 97, 115, 101, 83, 116, 101, 109, 109, 101, 114, 46, 111, 117, 116, 95, 103, 114, 111, 117, 112, 105, 110, 103]⟩⟩
noncomputable def q245_ : Str := ⟨⟨[66, 97, 115, 101, 83, 116, 101, 109, 109, 101, 114, 46, 103, 111, 95, 111, 117, 116, 95, 103, 114, 111, 117, 112, 105, 110, 103]⟩⟩
noncomputable def q246_ : Str := ⟨⟨[66, 97, 115, 101, 83, 116, 101, 109, 109, 101, 114, 46, 111, 117, 116, 95, 103, 114, 111, 117, 112, 105, 110, 103, 95, 98]⟩⟩
noncomputable def q247_ : Str := ⟨⟨[66, 97, 115, 101, 83, 116, 101, 109, 109, 101, 114, 46, 103, 111, 95, 111, 117, 116, 95, 103, 114, 111, 117, 112, 105, 110, 103, 95, 98]⟩⟩
noncomputable def q248_ : Str := ⟨⟨[66, 97, 115, 101, 83, 116, 101, 109, 109, 101, 114, 46, 101, 113, 95, 115]⟩⟩
noncomputable def q249_ : Str := ⟨⟨[66, 97, 115, 101, 83, 116, 101, 109, 109, 101, 114, 46, 101, 113, 95, 115, 95, 98]⟩⟩
noncomputable def q250_ : Str := ⟨⟨[118]⟩⟩
noncomputable def q251_ : Str := ⟨⟨[66, 97, 115, 101, 83, 116, 101, 109, 109, 101, 114, 46, 102, 105, 110, 100, 95, 97, 109, 111, 110, 103]⟩⟩
noncomputable def q252_ : Str := ⟨⟨[105]⟩⟩
noncomputable def q253_ : Str := ⟨⟨[106]⟩⟩
noncomputable def q254_ : Str := ⟨⟨[99]⟩⟩
noncomputable def q255_ : Str := ⟨⟨[108, 98]⟩⟩
noncomputable def q256_ : Str := ⟨⟨[99, 111, 109, 109, 111, 110, 95, 105]⟩⟩
noncomputable def q257_ : Str := ⟨⟨[99, 111, 109, 109, 111, 110, 95, 106]⟩⟩
noncomputable def q258_ : Str := ⟨⟨[102, 105, 114, 115, 116, 95, 107, 101, 121, 95, 105, 110, 115, 112, 101, 99, 116, 101, 100]⟩⟩
noncomputable def q259_ : Str := ⟨⟨[100, 105, 102, 102]⟩⟩
noncomputable def q260_ : Str := ⟨⟨[99, 111, 109, 109, 111, 110]⟩⟩
noncomputable def q261_ : Str := ⟨⟨[119]⟩⟩
noncomputable def q262_ : Str := ⟨⟨[105, 50]⟩⟩
noncomputable def q263_ : Str := ⟨⟨[66, 97, 115, 101, 83, 116, 101, 109, 109, 101, 114, 46, 102, 105, 110, 100, 95, 97, 109, 111, 110, 103, 95, 98]⟩⟩
noncomputable def q264_ : Str := ⟨⟨[99, 95, 98, 114, 97]⟩⟩
noncomputable def q265_ : Str := ⟨⟨[99, 95, 107, 101, 116]⟩⟩
noncomputable def q266_ : Str := ⟨⟨[97, 100, 106, 117, 115, 116, 109, 101, 110, 116]⟩⟩
noncomputable def q267_ : Str := ⟨⟨[66, 97, 115, 101, 83, 116, 101, 109, 109, 101, 114, 46, 114, 101, 112, 108, 97, 99, 101, 95, 115]⟩⟩
noncomputable def q268_ : Str := ⟨⟨[66, 97, 115, 101, 83, 116, 101, 109, 109, 101, 114, 46, 115, 108, 105, 99, 101, 95, 102, 114, 111, 109]⟩⟩
noncomputable def q269_ : Str := ⟨⟨[66, 97, 115, 101, 83, 116, 101, 109, 109, 101, 114, 46, 115, 108, 105, 99, 101, 95, 100, 101, 108]⟩⟩
noncomputable def q270_ : Str := ⟨⟨[66, 97, 115, 101, 83, 116, 101, 109, 109, 101, 114, 46, 105, 110, 115, 101, 114, 116]⟩⟩
noncomputable def q271_ : Str := ⟨⟨[66, 97, 115, 101, 83, 116, 101, 109, 109, 101, 114, 46, 115, 108, 105, 99, 101, 95, 116, 111]⟩⟩
noncomputable def q272_ : Str := ⟨⟨[66, 97, 115, 101, 83, 116, 101, 109, 109, 101, 114, 46, 97, 115, 115, 105, 103, 110, 95, 116, 111]⟩⟩
noncomputable def q273_ : Str := ⟨⟨[119, 111, 114, 100]⟩⟩
noncomputable def q274_ : Str := ⟨⟨[66, 97, 115, 101, 83, 116, 101, 109, 109, 101, 114, 46, 115, 116, 101, 109, 87, 111, 114, 100]⟩⟩
noncomputable def q275_ : Str := ⟨⟨[66, 97, 115, 101, 83, 116, 101, 109, 109, 101, 114, 46, 115, 116, 101, 109, 87, 111, 114, 100, 115]⟩⟩
noncomputable def q276_ : Str := ⟨⟨[98, 114, 97]⟩⟩
noncomputable def q277_ : Str := ⟨⟨[99, 117, 114, 114, 101, 110, 116]⟩⟩
noncomputable def q278_ : Str := ⟨⟨[99, 117, 114, 115, 111, 114]⟩⟩
noncomputable def q279_ : Str := ⟨⟨[107, 101, 116]⟩⟩
noncomputable def q280_ : Str := ⟨⟨[108, 105, 109, 105, 116]⟩⟩
noncomputable def q281_ : Str := ⟨⟨[108, 105, 109, 105, 116, 95, 98, 97, 99, 107, 119, 97, 114, 100]⟩⟩
noncomputable def q282_ : Str := ⟨⟨[95, 95, 100, 105, 99, 116, 95, 95]⟩⟩
noncomputable def q283_ : Str := ⟨⟨[95, 95, 119, 101, 97, 107, 114, 101, 102, 95, 95]⟩⟩
noncomputable def q284_ : Str := ⟨⟨[115, 110, 111, 119, 98, 97, 108, 108, 115, 116, 101, 109, 109, 101, 114, 46, 97, 114, 109, 101, 110, 105, 97, 110, 95, 115, 116, 101, 109, 109, 101, 114]⟩⟩
noncomputable def q285_ : Str := ⟨⟨[65, 109, 111, 110, 103]⟩⟩
noncomputable def q286_ : Str := ⟨⟨[115, 110, 111, 119, 98, 97, 108, 108, 115, 116, 101, 109, 109, 101, 114, 46, 97, 109, 111, 110, 103]⟩⟩
noncomputable def q287_ : Str := ⟨⟨[65, 109, 111, 110, 103, 46, 95, 95, 105, 110, 105, 116, 95, 95]⟩⟩
noncomputable def q288_ : Str := ⟨⟨[65, 114, 109, 101, 110, 105, 97, 110, 83, 116, 101, 109, 109, 101, 114]⟩⟩
noncomputable def q289_ : Str := ⟨⟨[103, 95, 118]⟩⟩
noncomputable def q290_ : Str := ⟨⟨[73, 95, 112, 50]⟩⟩
noncomputable def q291_ : Str := ⟨⟨[73, 95, 112, 86]⟩⟩
noncomputable def q292_ : Str := ⟨⟨[114, 95, 109, 97, 114, 107, 95, 114, 101, 103, 105, 111, 110, 115]⟩⟩
noncomputable def q293_ : Str := ⟨⟨[114, 95, 97, 100, 106, 101, 99, 116, 105, 118, 101]⟩⟩
noncomputable def q294_ : Str := ⟨⟨[114, 95, 118, 101, 114, 98]⟩⟩
noncomputable def q295_ : Str := ⟨⟨[114, 95, 110, 111, 117, 110]⟩⟩
noncomputable def q296_ : Str := ⟨⟨[114, 95, 101, 110, 100, 105, 110, 103]⟩⟩
noncomputable def q297_ : Str := ⟨⟨[95, 115, 116, 101, 109]⟩⟩
noncomputable def q298_ : Str := ⟨⟨[118, 95, 49]⟩⟩
noncomputable def q299_ : Str := ⟨⟨[65, 114, 109, 101, 110, 105, 97, 110, 83, 116, 101, 109, 109, 101, 114, 46, 114, 95, 109, 97, 114, 107, 95, 114, 101, 103, 105, 111, 110, 115]⟩⟩
noncomputable def q300_ : Str := ⟨⟨[65, 114, 109, 101, 110, 105, 97, 110, 83, 116, 101, 109, 109, 101, 114, 46, 114, 95, 97, 100, 106, 101, 99, 116, 105, 118, 101]⟩⟩
noncomputable def q301_ : Str := ⟨⟨[65, 114, 109, 101, 110, 105, 97, 110, 83, 116, 101, 109, 109, 101, 114, 46, 114, 95, 118, 101, 114, 98]⟩⟩
noncomputable def q302_ : Str := ⟨⟨[65, 114, 109, 101, 110, 105, 97, 110, 83, 116, 101, 109, 109, 101, 114, 46, 114, 95, 110, 111, 117, 110]⟩⟩
noncomputable def q303_ : Str := ⟨⟨[65, 114, 109, 101, 110, 105, 97, 110, 83, 116, 101, 109, 109, 101, 114, 46, 114, 95, 101, 110, 100, 105, 110, 103]⟩⟩
noncomputable def q304_ : Str := ⟨⟨[118, 95, 50]⟩⟩
noncomputable def q305_ : Str := ⟨⟨[118, 95, 51]⟩⟩
noncomputable def q306_ : Str := ⟨⟨[118, 95, 52]⟩⟩
noncomputable def q307_ : Str := ⟨⟨[118, 95, 53]⟩⟩
noncomputable def q308_ : Str := ⟨⟨[118, 95, 54]⟩⟩
noncomputable def q309_ : Str := ⟨⟨[65, 114, 109, 101, 110, 105, 97, 110, 83, 116, 101, 109, 109, 101, 114, 46, 95, 115, 116, 101, 109]⟩⟩
noncomputable def q310_ : Str := ⟨⟨[97, 95, 48]⟩⟩
noncomputable def q311_ : Str := ⟨⟨[97, 95, 49]⟩⟩
noncomputable def q312_ : Str := ⟨⟨[97, 95, 50]⟩⟩
noncomputable def q313_ : Str := ⟨⟨[97, 95, 51]⟩⟩
noncomputable def q314_ : Str := ⟨⟨[116, 121, 112, 101, 46, 95, 95, 115, 117, 98, 99, 108, 97, 115, 115, 101, 115, 95, 95, 46, 69, 120, 99, 101, 112, 116, 105, 111, 110, 46, 48]⟩⟩
noncomputable def q315_ : Str := ⟨⟨[116, 121, 112, 101, 46, 95, 95, 115, 117, 98, 99, 108, 97, 115, 115, 101, 115, 95, 95, 46, 69, 120, 99, 101, 112, 116, 105, 111, 110, 46, 110]⟩⟩
noncomputable def q316_ : Str := ⟨⟨[108, 97, 119, 95, 97, 107, 48, 48, 50, 49, 95, 48, 49]⟩⟩
noncomputable def q317_ : Str := ⟨⟨[108, 97, 98, 48]⟩⟩
noncomputable def q318_ : Str := ⟨⟨[95, 108, 97, 119, 95, 115, 105, 103, 110, 115]⟩⟩
noncomputable def q319_ : Str := ⟨⟨[1377, 1378, 1379, 1380, 1381, 1382, 1383, 1384, 1385, 1386, 1387, 1388, 1389, 1390, 1391, 1392, 1393, 1394, 1395, 1396, 1397, 1398, 1399, 1400, 1401, 1402, 1403, 1404, 1405, 1406, 1407, 1408, 1409, 1410, 1411, 1412, 1413, 1414, 1415]⟩⟩
noncomputable def q320_ : Str := ⟨⟨[95, 108, 97, 119, 95, 118, 111, 119, 101, 108, 115]⟩⟩
noncomputable def q321_ : Str := ⟨⟨[1377, 1381, 1383, 1384, 1387, 1400, 1410, 1413]⟩⟩
noncomputable def q322_ : Str := ⟨⟨[95, 108, 97, 119, 95, 111, 116, 104, 101, 114, 115]⟩⟩
noncomputable def q323_ : Str := ⟨⟨[1378, 1379, 1380, 1382, 1385, 1386, 1388, 1389, 1390, 1391, 1392, 1393, 1394, 1395, 1396, 1397, 1398, 1399, 1401, 1402, 1403, 1404, 1405, 1406, 1407, 1408, 1409, 1411, 1412, 1414]⟩⟩
noncomputable def q324_ : Str := ⟨⟨[95, 108, 97, 119, 95, 108, 97, 115, 116]⟩⟩
noncomputable def q325_ : Str := ⟨⟨[1382, 1386, 1389, 1393, 1395, 1399, 1404, 1411, 1414]⟩⟩
noncomputable def q326_ : Str := ⟨⟨[95, 108, 97, 119, 95, 99, 97, 115, 101, 115]⟩⟩
noncomputable def q327_ : Str := ⟨⟨[95, 108, 97, 119, 95, 112, 108, 117, 114, 97, 108, 115]⟩⟩
noncomputable def q328_ : Str := ⟨⟨[95, 108, 97, 119, 95, 110, 111, 117, 110, 115]⟩⟩
noncomputable def q329_ : Str := ⟨⟨[95, 108, 97, 119, 95, 97, 100, 106, 101, 99, 116, 105, 118, 101, 115]⟩⟩
noncomputable def q330_ : Str := ⟨⟨[95, 108, 97, 119, 95, 118, 101, 114, 98, 115]⟩⟩
noncomputable def q331_ : Str := ⟨⟨[]⟩⟩
noncomputable def q332_ : Str := ⟨⟨[95, 108, 97, 119, 95, 97, 116]⟩⟩
noncomputable def q333_ : Str := ⟨⟨[95, 108, 97, 119, 95, 115, 105, 103, 110]⟩⟩
noncomputable def q334_ : Str := ⟨⟨[95, 108, 97, 119, 95, 112, 105, 99, 107]⟩⟩
noncomputable def q335_ : Str := ⟨⟨[108, 97, 119]⟩⟩
noncomputable def q336_ : Str := ⟨⟨[115, 99, 114, 105, 112, 116]⟩⟩
noncomputable def q337_ : Str := ⟨⟨[112, 108, 97, 99, 101]⟩⟩
noncomputable def q338_ : Str := ⟨⟨[110, 117, 109, 98, 101, 114]⟩⟩
noncomputable def q339_ : Str := ⟨⟨[114, 111, 119, 115]⟩⟩
noncomputable def mkF0 (name qual : Str) (x : Arguments × List Stmt × Scope) (dV kV doc pm : Value) (an : Option Addr) (cdv ct : Value) : FuncData :=
  { name, qualname := qual, params := x.1, body := .stmts x.2.1, scope := x.2.2, globals := 0, closure := [], defaults := dV, kwdefaults := kV, doc, pyModule := pm, annotations := an, code := cdv, closureTuple := ct, builtins := 0 }
/-- a row of a table of endings: its text, its link, its first token, its dict's address, 1 where the link is below nought -/
structure AmRow where
  s : Str
  i : Int
  u : Nat
  x : Nat
  e : Nat
noncomputable def amD (P : Params) (r : AmRow) : Obj := ⟨.type PySem.W.SL.s14018661285674007319x4, none, .dict #[⟨PyData.keyHash P q0_, .str q0_ (r.u + 8 + r.e), .str r.s r.u⟩, ⟨PyData.keyHash P q1_, .str q1_ (r.u + 10 + r.e), .int r.i (r.u + 1 + r.e)⟩, ⟨PyData.keyHash P q2_, .str q2_ (r.u + 12 + r.e), .int 1 (r.u + 2 + r.e)⟩] 3, #[]⟩
noncomputable def amI (r : AmRow) : Obj := ⟨.ref 218, some r.x, .plain, #[]⟩
noncomputable def amF (P : Params) (r : AmRow) : Obj := ⟨.type PySem.W.SL.s658472552662922059x5, none, .dict #[⟨PyData.keyHash P q3_, .str q3_ (r.u + 3 + r.e), .ref (r.x + 1)⟩, ⟨PyData.keyHash P q0_, .str q0_ (r.u + 4 + r.e), .str r.s r.u⟩, ⟨PyData.keyHash P q1_, .str q1_ (r.u + 5 + r.e), .int r.i (r.u + 1 + r.e)⟩, ⟨PyData.keyHash P q2_, .str q2_ (r.u + 6 + r.e), .int 1 (r.u + 2 + r.e)⟩] 4, #[]⟩

noncomputable def r0_0 : AmRow := ⟨q4_, -1, 542, 273, 1⟩
noncomputable def r0_1 : AmRow := ⟨q5_, 0, 556, 276, 0⟩
noncomputable def r0_2 : AmRow := ⟨q6_, -1, 569, 279, 1⟩
noncomputable def r0_3 : AmRow := ⟨q7_, -1, 583, 282, 1⟩
noncomputable def r0_4 : AmRow := ⟨q8_, -1, 597, 285, 1⟩
noncomputable def r0_5 : AmRow := ⟨q9_, -1, 611, 288, 1⟩
noncomputable def r0_6 : AmRow := ⟨q10_, -1, 625, 291, 1⟩
noncomputable def r0_7 : AmRow := ⟨q11_, -1, 639, 294, 1⟩
noncomputable def r0_8 : AmRow := ⟨q12_, -1, 653, 297, 1⟩
noncomputable def r0_9 : AmRow := ⟨q13_, 8, 667, 300, 0⟩
noncomputable def r0_10 : AmRow := ⟨q14_, 8, 680, 303, 0⟩
noncomputable def r0_11 : AmRow := ⟨q15_, -1, 693, 306, 1⟩
noncomputable def r0_12 : AmRow := ⟨q16_, -1, 707, 309, 1⟩
noncomputable def r0_13 : AmRow := ⟨q17_, 12, 721, 312, 0⟩
noncomputable def r0_14 : AmRow := ⟨q18_, 12, 734, 315, 0⟩
noncomputable def r0_15 : AmRow := ⟨q19_, -1, 747, 318, 1⟩
noncomputable def r0_16 : AmRow := ⟨q20_, -1, 761, 321, 1⟩
noncomputable def r0_17 : AmRow := ⟨q21_, -1, 775, 324, 1⟩
noncomputable def r0_18 : AmRow := ⟨q22_, -1, 789, 327, 1⟩
noncomputable def r0_19 : AmRow := ⟨q23_, -1, 803, 330, 1⟩
noncomputable def r0_20 : AmRow := ⟨q24_, -1, 817, 333, 1⟩
noncomputable def r0_21 : AmRow := ⟨q25_, -1, 831, 336, 1⟩
noncomputable def r0_22 : AmRow := ⟨q26_, -1, 845, 339, 1⟩
noncomputable def r1_0 : AmRow := ⟨q27_, -1, 860, 343, 1⟩
noncomputable def r1_1 : AmRow := ⟨q28_, 0, 874, 346, 0⟩
noncomputable def r1_2 : AmRow := ⟨q29_, 0, 887, 349, 0⟩
noncomputable def r1_3 : AmRow := ⟨q30_, -1, 900, 352, 1⟩
noncomputable def r1_4 : AmRow := ⟨q31_, -1, 914, 355, 1⟩
noncomputable def r1_5 : AmRow := ⟨q32_, -1, 928, 358, 1⟩
noncomputable def r1_6 : AmRow := ⟨q33_, -1, 942, 361, 1⟩
noncomputable def r1_7 : AmRow := ⟨q34_, 6, 956, 364, 0⟩
noncomputable def r1_8 : AmRow := ⟨q35_, -1, 969, 367, 1⟩
noncomputable def r1_9 : AmRow := ⟨q36_, 8, 983, 370, 0⟩
noncomputable def r1_10 : AmRow := ⟨q37_, 8, 996, 373, 0⟩
noncomputable def r1_11 : AmRow := ⟨q38_, 8, 1009, 376, 0⟩
noncomputable def r1_12 : AmRow := ⟨q39_, 8, 1022, 379, 0⟩
noncomputable def r1_13 : AmRow := ⟨q40_, -1, 1035, 382, 1⟩
noncomputable def r1_14 : AmRow := ⟨q41_, 13, 1049, 385, 0⟩
noncomputable def r1_15 : AmRow := ⟨q42_, 13, 1062, 388, 0⟩
noncomputable def r1_16 : AmRow := ⟨q43_, 15, 1075, 391, 0⟩
noncomputable def r1_17 : AmRow := ⟨q44_, 16, 1088, 394, 0⟩
noncomputable def r1_18 : AmRow := ⟨q45_, 13, 1101, 397, 0⟩
noncomputable def r1_19 : AmRow := ⟨q46_, 13, 1114, 400, 0⟩
noncomputable def r1_20 : AmRow := ⟨q47_, 19, 1127, 403, 0⟩
noncomputable def r1_21 : AmRow := ⟨q48_, 19, 1140, 406, 0⟩
noncomputable def r1_22 : AmRow := ⟨q49_, 13, 1153, 409, 0⟩
noncomputable def r1_23 : AmRow := ⟨q50_, 22, 1166, 412, 0⟩
noncomputable def r1_24 : AmRow := ⟨q51_, 22, 1179, 415, 0⟩
noncomputable def r1_25 : AmRow := ⟨q52_, 24, 1192, 418, 0⟩
noncomputable def r1_26 : AmRow := ⟨q53_, -1, 1205, 421, 1⟩
noncomputable def r1_27 : AmRow := ⟨q54_, -1, 1219, 424, 1⟩
noncomputable def r1_28 : AmRow := ⟨q55_, 27, 1233, 427, 0⟩
noncomputable def r1_29 : AmRow := ⟨q56_, -1, 1246, 430, 1⟩
noncomputable def r1_30 : AmRow := ⟨q57_, 29, 1260, 433, 0⟩
noncomputable def r1_31 : AmRow := ⟨q58_, 30, 1273, 436, 0⟩
noncomputable def r1_32 : AmRow := ⟨q59_, -1, 1286, 439, 1⟩
noncomputable def r1_33 : AmRow := ⟨q60_, -1, 1300, 442, 1⟩
noncomputable def r1_34 : AmRow := ⟨q61_, -1, 1314, 445, 1⟩
noncomputable def r1_35 : AmRow := ⟨q62_, 34, 1328, 448, 0⟩
noncomputable def r1_36 : AmRow := ⟨q63_, -1, 1341, 451, 1⟩
noncomputable def r1_37 : AmRow := ⟨q64_, -1, 1355, 454, 1⟩
noncomputable def r1_38 : AmRow := ⟨q65_, -1, 1369, 457, 1⟩
noncomputable def r1_39 : AmRow := ⟨q66_, 38, 1383, 460, 0⟩
noncomputable def r1_40 : AmRow := ⟨q67_, 38, 1396, 463, 0⟩
noncomputable def r1_41 : AmRow := ⟨q68_, -1, 1409, 466, 1⟩
noncomputable def r1_42 : AmRow := ⟨q69_, -1, 1423, 469, 1⟩
noncomputable def r1_43 : AmRow := ⟨q70_, -1, 1437, 472, 1⟩
noncomputable def r1_44 : AmRow := ⟨q71_, 43, 1451, 475, 0⟩
noncomputable def r1_45 : AmRow := ⟨q72_, 43, 1464, 478, 0⟩
noncomputable def r1_46 : AmRow := ⟨q73_, -1, 1477, 481, 1⟩
noncomputable def r1_47 : AmRow := ⟨q74_, -1, 1491, 484, 1⟩
noncomputable def r1_48 : AmRow := ⟨q75_, -1, 1505, 487, 1⟩
noncomputable def r1_49 : AmRow := ⟨q76_, 48, 1519, 490, 0⟩
noncomputable def r1_50 : AmRow := ⟨q77_, -1, 1532, 493, 1⟩
noncomputable def r1_51 : AmRow := ⟨q78_, -1, 1546, 496, 1⟩
noncomputable def r1_52 : AmRow := ⟨q79_, 51, 1560, 499, 0⟩
noncomputable def r1_53 : AmRow := ⟨q80_, -1, 1573, 502, 1⟩
noncomputable def r1_54 : AmRow := ⟨q81_, -1, 1587, 505, 1⟩
noncomputable def r1_55 : AmRow := ⟨q82_, -1, 1601, 508, 1⟩
noncomputable def r1_56 : AmRow := ⟨q83_, -1, 1615, 511, 1⟩
noncomputable def r1_57 : AmRow := ⟨q84_, -1, 1629, 514, 1⟩
noncomputable def r1_58 : AmRow := ⟨q85_, 57, 1643, 517, 0⟩
noncomputable def r1_59 : AmRow := ⟨q86_, 58, 1656, 520, 0⟩
noncomputable def r1_60 : AmRow := ⟨q87_, -1, 1669, 523, 1⟩
noncomputable def r1_61 : AmRow := ⟨q88_, -1, 1683, 526, 1⟩
noncomputable def r1_62 : AmRow := ⟨q89_, -1, 1697, 529, 1⟩
noncomputable def r1_63 : AmRow := ⟨q90_, 62, 1711, 532, 0⟩
noncomputable def r1_64 : AmRow := ⟨q91_, -1, 1724, 535, 1⟩
noncomputable def r1_65 : AmRow := ⟨q92_, 64, 1738, 538, 0⟩
noncomputable def r1_66 : AmRow := ⟨q93_, 65, 1751, 541, 0⟩
noncomputable def r1_67 : AmRow := ⟨q94_, -1, 1764, 544, 1⟩
noncomputable def r1_68 : AmRow := ⟨q95_, -1, 1778, 547, 1⟩
noncomputable def r1_69 : AmRow := ⟨q96_, -1, 1792, 550, 1⟩
noncomputable def r1_70 : AmRow := ⟨q97_, 69, 1806, 553, 0⟩
noncomputable def r2_0 : AmRow := ⟨q98_, -1, 1820, 557, 1⟩
noncomputable def r2_1 : AmRow := ⟨q99_, -1, 1834, 560, 1⟩
noncomputable def r2_2 : AmRow := ⟨q100_, -1, 1848, 563, 1⟩
noncomputable def r2_3 : AmRow := ⟨q101_, -1, 1862, 566, 1⟩
noncomputable def r2_4 : AmRow := ⟨q102_, -1, 1876, 569, 1⟩
noncomputable def r2_5 : AmRow := ⟨q103_, -1, 1890, 572, 1⟩
noncomputable def r2_6 : AmRow := ⟨q104_, 5, 1904, 575, 0⟩
noncomputable def r2_7 : AmRow := ⟨q105_, 5, 1917, 578, 0⟩
noncomputable def r2_8 : AmRow := ⟨q106_, -1, 1930, 581, 1⟩
noncomputable def r2_9 : AmRow := ⟨q107_, -1, 1944, 584, 1⟩
noncomputable def r2_10 : AmRow := ⟨q56_, -1, 1958, 587, 1⟩
noncomputable def r2_11 : AmRow := ⟨q108_, 10, 1972, 590, 0⟩
noncomputable def r2_12 : AmRow := ⟨q109_, 10, 1985, 593, 0⟩
noncomputable def r2_13 : AmRow := ⟨q11_, 10, 1998, 596, 0⟩
noncomputable def r2_14 : AmRow := ⟨q110_, -1, 2011, 599, 1⟩
noncomputable def r2_15 : AmRow := ⟨q111_, -1, 2025, 602, 1⟩
noncomputable def r2_16 : AmRow := ⟨q112_, 15, 2039, 605, 0⟩
noncomputable def r2_17 : AmRow := ⟨q113_, -1, 2052, 608, 1⟩
noncomputable def r2_18 : AmRow := ⟨q114_, -1, 2066, 611, 1⟩
noncomputable def r2_19 : AmRow := ⟨q115_, -1, 2080, 614, 1⟩
noncomputable def r2_20 : AmRow := ⟨q116_, -1, 2094, 617, 1⟩
noncomputable def r2_21 : AmRow := ⟨q117_, -1, 2108, 620, 1⟩
noncomputable def r2_22 : AmRow := ⟨q118_, -1, 2122, 623, 1⟩
noncomputable def r2_23 : AmRow := ⟨q119_, 22, 2136, 626, 0⟩
noncomputable def r2_24 : AmRow := ⟨q120_, -1, 2149, 629, 1⟩
noncomputable def r2_25 : AmRow := ⟨q121_, -1, 2163, 632, 1⟩
noncomputable def r2_26 : AmRow := ⟨q122_, -1, 2177, 635, 1⟩
noncomputable def r2_27 : AmRow := ⟨q123_, -1, 2191, 638, 1⟩
noncomputable def r2_28 : AmRow := ⟨q124_, 27, 2205, 641, 0⟩
noncomputable def r2_29 : AmRow := ⟨q125_, 27, 2218, 644, 0⟩
noncomputable def r2_30 : AmRow := ⟨q126_, 29, 2231, 647, 0⟩
noncomputable def r2_31 : AmRow := ⟨q127_, 29, 2244, 650, 0⟩
noncomputable def r2_32 : AmRow := ⟨q128_, 27, 2257, 653, 0⟩
noncomputable def r2_33 : AmRow := ⟨q129_, 27, 2270, 656, 0⟩
noncomputable def r2_34 : AmRow := ⟨q130_, 27, 2283, 659, 0⟩
noncomputable def r2_35 : AmRow := ⟨q131_, 27, 2296, 662, 0⟩
noncomputable def r2_36 : AmRow := ⟨q132_, 27, 2309, 665, 0⟩
noncomputable def r2_37 : AmRow := ⟨q133_, 36, 2322, 668, 0⟩
noncomputable def r2_38 : AmRow := ⟨q134_, 27, 2335, 671, 0⟩
noncomputable def r2_39 : AmRow := ⟨q135_, 27, 2348, 674, 0⟩
noncomputable def r3_0 : AmRow := ⟨q136_, -1, 2362, 678, 1⟩
noncomputable def r3_1 : AmRow := ⟨q137_, -1, 2376, 681, 1⟩
noncomputable def r3_2 : AmRow := ⟨q138_, -1, 2390, 684, 1⟩
noncomputable def r3_3 : AmRow := ⟨q139_, -1, 2404, 687, 1⟩
noncomputable def r3_4 : AmRow := ⟨q140_, 3, 2418, 690, 0⟩
noncomputable def r3_5 : AmRow := ⟨q141_, 4, 2431, 693, 0⟩
noncomputable def r3_6 : AmRow := ⟨q142_, 4, 2444, 696, 0⟩
noncomputable def r3_7 : AmRow := ⟨q143_, 3, 2457, 699, 0⟩
noncomputable def r3_8 : AmRow := ⟨q144_, 3, 2470, 702, 0⟩
noncomputable def r3_9 : AmRow := ⟨q145_, 8, 2483, 705, 0⟩
noncomputable def r3_10 : AmRow := ⟨q146_, 3, 2496, 708, 0⟩
noncomputable def r3_11 : AmRow := ⟨q147_, -1, 2509, 711, 1⟩
noncomputable def r3_12 : AmRow := ⟨q148_, 11, 2523, 714, 0⟩
noncomputable def r3_13 : AmRow := ⟨q149_, 12, 2536, 717, 0⟩
noncomputable def r3_14 : AmRow := ⟨q150_, 12, 2549, 720, 0⟩
noncomputable def r3_15 : AmRow := ⟨q151_, 11, 2562, 723, 0⟩
noncomputable def r3_16 : AmRow := ⟨q152_, 11, 2575, 726, 0⟩
noncomputable def r3_17 : AmRow := ⟨q153_, 16, 2588, 729, 0⟩
noncomputable def r3_18 : AmRow := ⟨q154_, -1, 2601, 732, 1⟩
noncomputable def r3_19 : AmRow := ⟨q155_, 18, 2615, 735, 0⟩
noncomputable def r3_20 : AmRow := ⟨q156_, 18, 2628, 738, 0⟩
noncomputable def r3_21 : AmRow := ⟨q157_, 20, 2641, 741, 0⟩
noncomputable def r3_22 : AmRow := ⟨q158_, -1, 2654, 744, 1⟩
noncomputable def r3_23 : AmRow := ⟨q159_, -1, 2668, 747, 1⟩
noncomputable def r3_24 : AmRow := ⟨q160_, 23, 2682, 750, 0⟩
noncomputable def r3_25 : AmRow := ⟨q161_, -1, 2695, 753, 1⟩
noncomputable def r3_26 : AmRow := ⟨q56_, 25, 2709, 756, 0⟩
noncomputable def r3_27 : AmRow := ⟨q162_, 26, 2722, 759, 0⟩
noncomputable def r3_28 : AmRow := ⟨q163_, 26, 2735, 762, 0⟩
noncomputable def r3_29 : AmRow := ⟨q16_, 25, 2748, 765, 0⟩
noncomputable def r3_30 : AmRow := ⟨q164_, 29, 2761, 768, 0⟩
noncomputable def r3_31 : AmRow := ⟨q165_, 30, 2774, 771, 0⟩
noncomputable def r3_32 : AmRow := ⟨q166_, 25, 2787, 774, 0⟩
noncomputable def r3_33 : AmRow := ⟨q167_, 25, 2800, 777, 0⟩
noncomputable def r3_34 : AmRow := ⟨q168_, 33, 2813, 780, 0⟩
noncomputable def r3_35 : AmRow := ⟨q169_, 25, 2826, 783, 0⟩
noncomputable def r3_36 : AmRow := ⟨q170_, -1, 2839, 786, 1⟩
noncomputable def r3_37 : AmRow := ⟨q171_, -1, 2853, 789, 1⟩
noncomputable def r3_38 : AmRow := ⟨q172_, -1, 2867, 792, 1⟩
noncomputable def r3_39 : AmRow := ⟨q173_, -1, 2881, 795, 1⟩
noncomputable def r3_40 : AmRow := ⟨q174_, -1, 2895, 798, 1⟩
noncomputable def r3_41 : AmRow := ⟨q175_, 40, 2909, 801, 0⟩
noncomputable def r3_42 : AmRow := ⟨q176_, 40, 2922, 804, 0⟩
noncomputable def r3_43 : AmRow := ⟨q177_, 40, 2935, 807, 0⟩
noncomputable def r3_44 : AmRow := ⟨q178_, 43, 2948, 810, 0⟩
noncomputable def r3_45 : AmRow := ⟨q179_, -1, 2961, 813, 1⟩
noncomputable def r3_46 : AmRow := ⟨q180_, 45, 2975, 816, 0⟩
noncomputable def r3_47 : AmRow := ⟨q181_, -1, 2988, 819, 1⟩
noncomputable def r3_48 : AmRow := ⟨q182_, 47, 3002, 822, 0⟩
noncomputable def r3_49 : AmRow := ⟨q183_, 48, 3015, 825, 0⟩
noncomputable def r3_50 : AmRow := ⟨q184_, 48, 3028, 828, 0⟩
noncomputable def r3_51 : AmRow := ⟨q185_, 48, 3041, 831, 0⟩
noncomputable def r3_52 : AmRow := ⟨q186_, 48, 3054, 834, 0⟩
noncomputable def r3_53 : AmRow := ⟨q187_, 52, 3067, 837, 0⟩
noncomputable def r3_54 : AmRow := ⟨q188_, 48, 3080, 840, 0⟩
noncomputable def r3_55 : AmRow := ⟨q120_, 47, 3093, 843, 0⟩
noncomputable def r3_56 : AmRow := ⟨q189_, 47, 3106, 846, 0⟩
noncomputable def o11 (P : Params) : Obj := Obj.mk (Value.type PySem.W.SL.s2766695959194262286x5) none (Data.seq #[]) #[]
noncomputable def o12 (P : Params) : Obj := Obj.mk Value.none none (Data.fields #[]) #[]
noncomputable def o13 (P : Params) : Obj := Obj.mk (Value.type PySem.W.SL.s5856160107412720595x4) none (Data.fields #[Value.str q190_ 182, Value.str q190_ 183, Value.str q191_ 184, Value.int 1 0, Value.int 0 0, Value.int 0 0, Value.int 0 0, Value.int 0 0, Value.ref 11, Value.bool Bool.false, Value.int 181 0, Value.ref 12, Value.none, Value.none, Value.none, Value.none, Value.int 185 0, Value.int 1 0, Value.str q191_ 186]) #[]
noncomputable def o14 (P : Params) : Obj := Obj.mk (Value.type PySem.W.SL.s658472552662922059x5) none Data.plain #[some (Value.ref 13), some (Value.ref 3), some (Value.ref 3), none, some (Value.str q192_ 164), none, some (Value.ref 0)]
noncomputable def o3v2 (P : Params) : Obj := Obj.mk (Value.type PySem.W.SL.s14018661285674007319x4) none (Data.dict #[DictEntry.mk (PyData.keyHash P q193_) (Value.str q193_ 165) (Value.str q194_ 194), DictEntry.mk (PyData.keyHash P q195_) (Value.str q195_ 166) Value.none, DictEntry.mk (PyData.keyHash P q196_) (Value.str q196_ 167) Value.none, DictEntry.mk (PyData.keyHash P q197_) (Value.str q197_ 168) (Value.builtin PySem.W.SL.s7097527257260152453x26), DictEntry.mk (PyData.keyHash P q198_) (Value.str q198_ 169) Value.none, DictEntry.mk (PyData.keyHash P q199_) (Value.str q199_ 170) (Value.ref 6), DictEntry.mk (PyData.keyHash P q200_) (Value.str q200_ 171) (Value.ref 4), DictEntry.mk (PyData.keyHash P q201_) (Value.str q201_ 173) (Value.str q191_ 172), DictEntry.mk (PyData.keyHash P q202_) (Value.str q202_ 174) Value.none, DictEntry.mk (PyData.keyHash P q203_) (Value.str q203_ 193) (Value.ref 21), DictEntry.mk (PyData.keyHash P q204_) (Value.str q204_ 423) (Value.ref 197)] 11) #[]
noncomputable def o12v2 (P : Params) : Obj := Obj.mk Value.none none (Data.fields #[Value.int 1 0, Value.int 0 0, Value.ref 20, Value.int 5 0, Value.int 0 0, Value.ref 27]) #[]
noncomputable def o15 (P : Params) : Obj := Obj.mk (Value.type PySem.W.SL.s2766695959194262286x5) none (Data.seq #[]) #[]
noncomputable def o16 (P : Params) : Obj := Obj.mk Value.none none (Data.fields #[]) #[]
noncomputable def o17 (P : Params) : Obj := Obj.mk (Value.type PySem.W.SL.s2766695959194262286x5) none (Data.seq #[Value.str q205_ 190]) #[]
noncomputable def o18 (P : Params) : Obj := Obj.mk (Value.type PySem.W.SL.s2766695959194262286x5) none (Data.seq #[]) #[]
noncomputable def o19 (P : Params) : Obj := ⟨Value.none, none, .func (mkF0 q203_ q203_ (fnT 0) (Value.none) (Value.none) (Value.none) (Value.none) (none) (Value.none) (Value.none)), #[]⟩
noncomputable def o20 (P : Params) : Obj := Obj.mk (Value.type PySem.W.SL.s5856160107412720595x4) none (Data.fields #[Value.str q203_ 187, Value.str q203_ 188, Value.str q191_ 189, Value.int 1 0, Value.int 1 0, Value.int 0 0, Value.int 0 0, Value.int 3 0, Value.ref 15, Value.bool Bool.true, Value.int 181 0, Value.ref 16, Value.none, Value.ref 17, Value.ref 18, Value.ref 19, Value.int 191 0, Value.int 1 0, Value.str q191_ 192]) #[]
noncomputable def o21 (P : Params) : Obj := ⟨Value.type PySem.W.SL.s7174869446012820540x8, none, .func (mkF q203_ q203_ (fnT 0) (Value.none) (Value.none) (Value.none) (Value.str q192_ 164) (none) (Value.ref 20) (Value.none)), #[]⟩
noncomputable def o22 (P : Params) : Obj := Obj.mk (Value.type PySem.W.SL.s2766695959194262286x5) none (Data.seq #[]) #[]
noncomputable def o23 (P : Params) : Obj := Obj.mk (Value.type PySem.W.SL.s11030030927630378310x26) none (Data.fields #[Value.builtin PySem.W.SL.s10062305145149207511x16, Value.type PySem.W.SL.s17162191345867700912x4]) #[]
noncomputable def o24 (P : Params) : Obj := Obj.mk (Value.type PySem.W.SL.s14018661285674007319x4) none (Data.dict #[DictEntry.mk (PyData.keyHash P q206_) (Value.str q206_ 203) (Value.str q194_ 194), DictEntry.mk (PyData.keyHash P q207_) (Value.str q207_ 205) (Value.str q204_ 204), DictEntry.mk (PyData.keyHash P q208_) (Value.str q208_ 207) (Value.int 5 206), DictEntry.mk (PyData.keyHash P q209_) (Value.str q209_ 214) (Value.ref 35), DictEntry.mk (PyData.keyHash P q210_) (Value.str q210_ 222) (Value.ref 42), DictEntry.mk (PyData.keyHash P q211_) (Value.str q211_ 229) (Value.ref 49), DictEntry.mk (PyData.keyHash P q212_) (Value.str q212_ 237) (Value.ref 56), DictEntry.mk (PyData.keyHash P q213_) (Value.str q213_ 245) (Value.ref 63), DictEntry.mk (PyData.keyHash P q214_) (Value.str q214_ 253) (Value.ref 70), DictEntry.mk (PyData.keyHash P q215_) (Value.str q215_ 261) (Value.ref 77), DictEntry.mk (PyData.keyHash P q216_) (Value.str q216_ 269) (Value.ref 84), DictEntry.mk (PyData.keyHash P q217_) (Value.str q217_ 277) (Value.ref 91), DictEntry.mk (PyData.keyHash P q218_) (Value.str q218_ 285) (Value.ref 98), DictEntry.mk (PyData.keyHash P q219_) (Value.str q219_ 293) (Value.ref 105), DictEntry.mk (PyData.keyHash P q220_) (Value.str q220_ 301) (Value.ref 112), DictEntry.mk (PyData.keyHash P q221_) (Value.str q221_ 309) (Value.ref 119), DictEntry.mk (PyData.keyHash P q222_) (Value.str q222_ 317) (Value.ref 126), DictEntry.mk (PyData.keyHash P q223_) (Value.str q223_ 325) (Value.ref 133), DictEntry.mk (PyData.keyHash P q224_) (Value.str q224_ 345) (Value.ref 140), DictEntry.mk (PyData.keyHash P q225_) (Value.str q225_ 356) (Value.ref 147), DictEntry.mk (PyData.keyHash P q226_) (Value.str q226_ 364) (Value.ref 154), DictEntry.mk (PyData.keyHash P q227_) (Value.str q227_ 371) (Value.ref 161), DictEntry.mk (PyData.keyHash P q228_) (Value.str q228_ 381) (Value.ref 168), DictEntry.mk (PyData.keyHash P q229_) (Value.str q229_ 388) (Value.ref 175), DictEntry.mk (PyData.keyHash P q230_) (Value.str q230_ 395) (Value.ref 182), DictEntry.mk (PyData.keyHash P q231_) (Value.str q231_ 403) (Value.ref 189), DictEntry.mk (PyData.keyHash P q232_) (Value.str q232_ 409) (Value.ref 194), DictEntry.mk (PyData.keyHash P q233_) (Value.str q233_ 416) (Value.ref 195)] 28) #[]
noncomputable def o25 (P : Params) : Obj := Obj.mk (Value.type PySem.W.SL.s2766695959194262286x5) none (Data.seq #[]) #[]
noncomputable def o26 (P : Params) : Obj := Obj.mk Value.none none (Data.fields (Value.int 7 0 :: Value.int 4 0 :: Value.ref 34 :: Value.int 10 0 :: Value.int 4 0 :: Value.ref 41 :: Value.int 18 0 :: Value.int 4 0 :: Value.ref 48 :: Value.int 21 0 :: Value.int 4 0 :: Value.ref 55 :: Value.int 24 0 :: Value.int 4 0 :: Value.ref 62 :: Value.int 27 0 :: Value.int 4 0 :: Value.ref 69 :: Value.int 34 0 :: Value.int 4 0 :: Value.ref 76 :: Value.int 37 0 :: Value.int 4 0 :: Value.ref 83 :: Value.int 40 0 :: Value.int 4 0 :: Value.ref 90 :: Value.int 43 0 :: Value.int 4 0 :: Value.ref 97 :: Value.int 50 0 :: Value.int 4 0 :: Value.ref 104 :: Value.int 53 0 :: Value.int 4 0 :: Value.ref 111 :: Value.int 56 0 :: Value.int 4 0 :: Value.ref 118 :: Value.int 59 0 :: Value.int 4 0 :: Value.ref 125 :: Value.int 62 0 :: Value.int 4 0 :: Value.ref 132 :: Value.int 65 0 :: Value.int 4 0 :: Value.ref 139 :: Value.int 110 0 :: Value.int 4 0 :: Value.ref 146 :: Value.int 120 0 :: Value.int 4 0 :: Value.ref 153 :: Value.int 128 0 :: Value.int 4 0 :: Value.ref 160 :: Value.int 131 0 :: Value.int 4 0 :: Value.ref 167 :: Value.int 134 0 :: Value.int 4 0 :: Value.ref 174 :: Value.int 137 0 :: Value.int 4 0 :: Value.ref 181 :: Value.int 140 0 :: Value.int 4 0 :: Value.ref 188 :: Value.int 145 0 :: Value.int 4 0 :: Value.ref 193 :: []).toArray) #[]
noncomputable def o27 (P : Params) : Obj := Obj.mk (Value.type PySem.W.SL.s5856160107412720595x4) none (Data.fields #[Value.str q204_ 198, Value.str q204_ 199, Value.str q191_ 200, Value.int 5 0, Value.int 0 0, Value.int 0 0, Value.int 0 0, Value.int 0 0, Value.ref 25, Value.bool Bool.false, Value.int 181 0, Value.ref 26, Value.none, Value.none, Value.none, Value.none, Value.int 201 0, Value.int 5 0, Value.str q191_ 202]) #[]
noncomputable def o28 (P : Params) : Obj := Obj.mk (Value.type PySem.W.SL.s658472552662922059x5) none Data.plain #[some (Value.ref 27), some (Value.ref 3), some (Value.ref 24), none, some (Value.str q194_ 194), none, some (Value.ref 0)]
noncomputable def o29 (P : Params) : Obj := Obj.mk (Value.type PySem.W.SL.s2766695959194262286x5) none (Data.seq #[]) #[]
noncomputable def o30 (P : Params) : Obj := Obj.mk Value.none none (Data.fields #[]) #[]
noncomputable def o31 (P : Params) : Obj := Obj.mk (Value.type PySem.W.SL.s2766695959194262286x5) none (Data.seq #[Value.str q3_ 211]) #[]
noncomputable def o32 (P : Params) : Obj := Obj.mk (Value.type PySem.W.SL.s2766695959194262286x5) none (Data.seq #[]) #[]
noncomputable def o33 (P : Params) : Obj := ⟨Value.none, none, .func (mkF0 q209_ q234_ (fnC 2 0) (Value.none) (Value.none) (Value.none) (Value.none) (none) (Value.none) (Value.none)), #[]⟩
noncomputable def o34 (P : Params) : Obj := Obj.mk (Value.type PySem.W.SL.s5856160107412720595x4) none (Data.fields #[Value.str q209_ 208, Value.str q234_ 209, Value.str q191_ 210, Value.int 7 0, Value.int 1 0, Value.int 0 0, Value.int 0 0, Value.int 3 0, Value.ref 29, Value.bool Bool.true, Value.int 181 0, Value.ref 30, Value.none, Value.ref 31, Value.ref 32, Value.ref 33, Value.int 212 0, Value.int 7 0, Value.str q191_ 213]) #[]
noncomputable def o35 (P : Params) : Obj := ⟨Value.type PySem.W.SL.s7174869446012820540x8, none, .func (mkF q209_ q234_ (fnC 2 0) (Value.none) (Value.none) (Value.none) (Value.str q194_ 194) (none) (Value.ref 34) (Value.none)), #[]⟩
noncomputable def o36 (P : Params) : Obj := Obj.mk (Value.type PySem.W.SL.s2766695959194262286x5) none (Data.seq #[]) #[]
noncomputable def o37 (P : Params) : Obj := Obj.mk Value.none none (Data.fields #[]) #[]
noncomputable def o38 (P : Params) : Obj := Obj.mk (Value.type PySem.W.SL.s2766695959194262286x5) none (Data.seq #[Value.str q3_ 218, Value.str q235_ 219]) #[]
noncomputable def o39 (P : Params) : Obj := Obj.mk (Value.type PySem.W.SL.s2766695959194262286x5) none (Data.seq #[]) #[]
noncomputable def o40 (P : Params) : Obj := ⟨Value.none, none, .func (mkF0 q210_ q236_ (fnC 2 1) (Value.none) (Value.none) (Value.none) (Value.none) (none) (Value.none) (Value.none)), #[]⟩
noncomputable def o41 (P : Params) : Obj := Obj.mk (Value.type PySem.W.SL.s5856160107412720595x4) none (Data.fields #[Value.str q210_ 215, Value.str q236_ 216, Value.str q191_ 217, Value.int 10 0, Value.int 2 0, Value.int 0 0, Value.int 0 0, Value.int 3 0, Value.ref 36, Value.bool Bool.true, Value.int 181 0, Value.ref 37, Value.none, Value.ref 38, Value.ref 39, Value.ref 40, Value.int 220 0, Value.int 10 0, Value.str q191_ 221]) #[]
noncomputable def o42 (P : Params) : Obj := ⟨Value.type PySem.W.SL.s7174869446012820540x8, none, .func (mkF q210_ q236_ (fnC 2 1) (Value.none) (Value.none) (Value.none) (Value.str q194_ 194) (none) (Value.ref 41) (Value.none)), #[]⟩
noncomputable def o43 (P : Params) : Obj := Obj.mk (Value.type PySem.W.SL.s2766695959194262286x5) none (Data.seq #[]) #[]
noncomputable def o44 (P : Params) : Obj := Obj.mk Value.none none (Data.fields #[]) #[]
noncomputable def o45 (P : Params) : Obj := Obj.mk (Value.type PySem.W.SL.s2766695959194262286x5) none (Data.seq #[Value.str q3_ 226]) #[]
noncomputable def o46 (P : Params) : Obj := Obj.mk (Value.type PySem.W.SL.s2766695959194262286x5) none (Data.seq #[]) #[]
noncomputable def o47 (P : Params) : Obj := ⟨Value.none, none, .func (mkF0 q211_ q237_ (fnC 2 2) (Value.none) (Value.none) (Value.none) (Value.none) (none) (Value.none) (Value.none)), #[]⟩
noncomputable def o48 (P : Params) : Obj := Obj.mk (Value.type PySem.W.SL.s5856160107412720595x4) none (Data.fields #[Value.str q211_ 223, Value.str q237_ 224, Value.str q191_ 225, Value.int 18 0, Value.int 1 0, Value.int 0 0, Value.int 0 0, Value.int 3 0, Value.ref 43, Value.bool Bool.true, Value.int 181 0, Value.ref 44, Value.none, Value.ref 45, Value.ref 46, Value.ref 47, Value.int 227 0, Value.int 18 0, Value.str q191_ 228]) #[]
noncomputable def o49 (P : Params) : Obj := ⟨Value.type PySem.W.SL.s7174869446012820540x8, none, .func (mkF q211_ q237_ (fnC 2 2) (Value.none) (Value.none) (Value.none) (Value.str q194_ 194) (none) (Value.ref 48) (Value.none)), #[]⟩
noncomputable def o50 (P : Params) : Obj := Obj.mk (Value.type PySem.W.SL.s2766695959194262286x5) none (Data.seq #[]) #[]
noncomputable def o51 (P : Params) : Obj := Obj.mk Value.none none (Data.fields #[]) #[]
noncomputable def o52 (P : Params) : Obj := Obj.mk (Value.type PySem.W.SL.s2766695959194262286x5) none (Data.seq #[Value.str q3_ 233, Value.str q238_ 234]) #[]
noncomputable def o53 (P : Params) : Obj := Obj.mk (Value.type PySem.W.SL.s2766695959194262286x5) none (Data.seq #[]) #[]
noncomputable def o54 (P : Params) : Obj := ⟨Value.none, none, .func (mkF0 q212_ q239_ (fnC 2 3) (Value.none) (Value.none) (Value.none) (Value.none) (none) (Value.none) (Value.none)), #[]⟩
noncomputable def o55 (P : Params) : Obj := Obj.mk (Value.type PySem.W.SL.s5856160107412720595x4) none (Data.fields #[Value.str q212_ 230, Value.str q239_ 231, Value.str q191_ 232, Value.int 21 0, Value.int 2 0, Value.int 0 0, Value.int 0 0, Value.int 3 0, Value.ref 50, Value.bool Bool.true, Value.int 181 0, Value.ref 51, Value.none, Value.ref 52, Value.ref 53, Value.ref 54, Value.int 235 0, Value.int 21 0, Value.str q191_ 236]) #[]
noncomputable def o56 (P : Params) : Obj := ⟨Value.type PySem.W.SL.s7174869446012820540x8, none, .func (mkF q212_ q239_ (fnC 2 3) (Value.none) (Value.none) (Value.none) (Value.str q194_ 194) (none) (Value.ref 55) (Value.none)), #[]⟩
noncomputable def o57 (P : Params) : Obj := Obj.mk (Value.type PySem.W.SL.s2766695959194262286x5) none (Data.seq #[]) #[]
noncomputable def o58 (P : Params) : Obj := Obj.mk Value.none none (Data.fields #[]) #[]
noncomputable def o59 (P : Params) : Obj := Obj.mk (Value.type PySem.W.SL.s2766695959194262286x5) none (Data.seq #[Value.str q3_ 241, Value.str q0_ 242]) #[]
noncomputable def o60 (P : Params) : Obj := Obj.mk (Value.type PySem.W.SL.s2766695959194262286x5) none (Data.seq #[]) #[]
noncomputable def o61 (P : Params) : Obj := ⟨Value.none, none, .func (mkF0 q213_ q240_ (fnC 2 4) (Value.none) (Value.none) (Value.none) (Value.none) (none) (Value.none) (Value.none)), #[]⟩
noncomputable def o62 (P : Params) : Obj := Obj.mk (Value.type PySem.W.SL.s5856160107412720595x4) none (Data.fields #[Value.str q213_ 238, Value.str q240_ 239, Value.str q191_ 240, Value.int 24 0, Value.int 2 0, Value.int 0 0, Value.int 0 0, Value.int 3 0, Value.ref 57, Value.bool Bool.true, Value.int 181 0, Value.ref 58, Value.none, Value.ref 59, Value.ref 60, Value.ref 61, Value.int 243 0, Value.int 24 0, Value.str q191_ 244]) #[]
noncomputable def o63 (P : Params) : Obj := ⟨Value.type PySem.W.SL.s7174869446012820540x8, none, .func (mkF q213_ q240_ (fnC 2 4) (Value.none) (Value.none) (Value.none) (Value.str q194_ 194) (none) (Value.ref 62) (Value.none)), #[]⟩
noncomputable def o64 (P : Params) : Obj := Obj.mk (Value.type PySem.W.SL.s2766695959194262286x5) none (Data.seq #[]) #[]
noncomputable def o65 (P : Params) : Obj := Obj.mk Value.none none (Data.fields #[]) #[]
noncomputable def o66 (P : Params) : Obj := Obj.mk (Value.type PySem.W.SL.s2766695959194262286x5) none (Data.seq #[Value.str q3_ 249, Value.str q0_ 250]) #[]
noncomputable def o67 (P : Params) : Obj := Obj.mk (Value.type PySem.W.SL.s2766695959194262286x5) none (Data.seq #[]) #[]
noncomputable def o68 (P : Params) : Obj := ⟨Value.none, none, .func (mkF0 q214_ q241_ (fnC 2 5) (Value.none) (Value.none) (Value.none) (Value.none) (none) (Value.none) (Value.none)), #[]⟩
noncomputable def o69 (P : Params) : Obj := Obj.mk (Value.type PySem.W.SL.s5856160107412720595x4) none (Data.fields #[Value.str q214_ 246, Value.str q241_ 247, Value.str q191_ 248, Value.int 27 0, Value.int 2 0, Value.int 0 0, Value.int 0 0, Value.int 3 0, Value.ref 64, Value.bool Bool.true, Value.int 181 0, Value.ref 65, Value.none, Value.ref 66, Value.ref 67, Value.ref 68, Value.int 251 0, Value.int 27 0, Value.str q191_ 252]) #[]
noncomputable def o70 (P : Params) : Obj := ⟨Value.type PySem.W.SL.s7174869446012820540x8, none, .func (mkF q214_ q241_ (fnC 2 5) (Value.none) (Value.none) (Value.none) (Value.str q194_ 194) (none) (Value.ref 69) (Value.none)), #[]⟩
noncomputable def o71 (P : Params) : Obj := Obj.mk (Value.type PySem.W.SL.s2766695959194262286x5) none (Data.seq #[]) #[]
noncomputable def o72 (P : Params) : Obj := Obj.mk Value.none none (Data.fields #[]) #[]
noncomputable def o73 (P : Params) : Obj := Obj.mk (Value.type PySem.W.SL.s2766695959194262286x5) none (Data.seq #[Value.str q3_ 257, Value.str q0_ 258]) #[]
noncomputable def o74 (P : Params) : Obj := Obj.mk (Value.type PySem.W.SL.s2766695959194262286x5) none (Data.seq #[]) #[]
noncomputable def o75 (P : Params) : Obj := ⟨Value.none, none, .func (mkF0 q215_ q242_ (fnC 2 6) (Value.none) (Value.none) (Value.none) (Value.none) (none) (Value.none) (Value.none)), #[]⟩
noncomputable def o76 (P : Params) : Obj := Obj.mk (Value.type PySem.W.SL.s5856160107412720595x4) none (Data.fields #[Value.str q215_ 254, Value.str q242_ 255, Value.str q191_ 256, Value.int 34 0, Value.int 2 0, Value.int 0 0, Value.int 0 0, Value.int 3 0, Value.ref 71, Value.bool Bool.true, Value.int 181 0, Value.ref 72, Value.none, Value.ref 73, Value.ref 74, Value.ref 75, Value.int 259 0, Value.int 34 0, Value.str q191_ 260]) #[]
noncomputable def o77 (P : Params) : Obj := ⟨Value.type PySem.W.SL.s7174869446012820540x8, none, .func (mkF q215_ q242_ (fnC 2 6) (Value.none) (Value.none) (Value.none) (Value.str q194_ 194) (none) (Value.ref 76) (Value.none)), #[]⟩
noncomputable def o78 (P : Params) : Obj := Obj.mk (Value.type PySem.W.SL.s2766695959194262286x5) none (Data.seq #[]) #[]
noncomputable def o79 (P : Params) : Obj := Obj.mk Value.none none (Data.fields #[]) #[]
noncomputable def o80 (P : Params) : Obj := Obj.mk (Value.type PySem.W.SL.s2766695959194262286x5) none (Data.seq #[Value.str q3_ 265, Value.str q0_ 266]) #[]
noncomputable def o81 (P : Params) : Obj := Obj.mk (Value.type PySem.W.SL.s2766695959194262286x5) none (Data.seq #[]) #[]
noncomputable def o82 (P : Params) : Obj := ⟨Value.none, none, .func (mkF0 q216_ q243_ (fnC 2 7) (Value.none) (Value.none) (Value.none) (Value.none) (none) (Value.none) (Value.none)), #[]⟩
noncomputable def o83 (P : Params) : Obj := Obj.mk (Value.type PySem.W.SL.s5856160107412720595x4) none (Data.fields #[Value.str q216_ 262, Value.str q243_ 263, Value.str q191_ 264, Value.int 37 0, Value.int 2 0, Value.int 0 0, Value.int 0 0, Value.int 3 0, Value.ref 78, Value.bool Bool.true, Value.int 181 0, Value.ref 79, Value.none, Value.ref 80, Value.ref 81, Value.ref 82, Value.int 267 0, Value.int 37 0, Value.str q191_ 268]) #[]
noncomputable def o84 (P : Params) : Obj := ⟨Value.type PySem.W.SL.s7174869446012820540x8, none, .func (mkF q216_ q243_ (fnC 2 7) (Value.none) (Value.none) (Value.none) (Value.str q194_ 194) (none) (Value.ref 83) (Value.none)), #[]⟩
noncomputable def o85 (P : Params) : Obj := Obj.mk (Value.type PySem.W.SL.s2766695959194262286x5) none (Data.seq #[]) #[]
noncomputable def o86 (P : Params) : Obj := Obj.mk Value.none none (Data.fields #[]) #[]
noncomputable def o87 (P : Params) : Obj := Obj.mk (Value.type PySem.W.SL.s2766695959194262286x5) none (Data.seq #[Value.str q3_ 273, Value.str q0_ 274]) #[]
noncomputable def o88 (P : Params) : Obj := Obj.mk (Value.type PySem.W.SL.s2766695959194262286x5) none (Data.seq #[]) #[]
noncomputable def o89 (P : Params) : Obj := ⟨Value.none, none, .func (mkF0 q217_ q244_ (fnC 2 8) (Value.none) (Value.none) (Value.none) (Value.none) (none) (Value.none) (Value.none)), #[]⟩
noncomputable def o90 (P : Params) : Obj := Obj.mk (Value.type PySem.W.SL.s5856160107412720595x4) none (Data.fields #[Value.str q217_ 270, Value.str q244_ 271, Value.str q191_ 272, Value.int 40 0, Value.int 2 0, Value.int 0 0, Value.int 0 0, Value.int 3 0, Value.ref 85, Value.bool Bool.true, Value.int 181 0, Value.ref 86, Value.none, Value.ref 87, Value.ref 88, Value.ref 89, Value.int 275 0, Value.int 40 0, Value.str q191_ 276]) #[]
noncomputable def o91 (P : Params) : Obj := ⟨Value.type PySem.W.SL.s7174869446012820540x8, none, .func (mkF q217_ q244_ (fnC 2 8) (Value.none) (Value.none) (Value.none) (Value.str q194_ 194) (none) (Value.ref 90) (Value.none)), #[]⟩
noncomputable def o92 (P : Params) : Obj := Obj.mk (Value.type PySem.W.SL.s2766695959194262286x5) none (Data.seq #[]) #[]
noncomputable def o93 (P : Params) : Obj := Obj.mk Value.none none (Data.fields #[]) #[]
noncomputable def o94 (P : Params) : Obj := Obj.mk (Value.type PySem.W.SL.s2766695959194262286x5) none (Data.seq #[Value.str q3_ 281, Value.str q0_ 282]) #[]
noncomputable def o95 (P : Params) : Obj := Obj.mk (Value.type PySem.W.SL.s2766695959194262286x5) none (Data.seq #[]) #[]
noncomputable def o96 (P : Params) : Obj := ⟨Value.none, none, .func (mkF0 q218_ q245_ (fnC 2 9) (Value.none) (Value.none) (Value.none) (Value.none) (none) (Value.none) (Value.none)), #[]⟩
noncomputable def o97 (P : Params) : Obj := Obj.mk (Value.type PySem.W.SL.s5856160107412720595x4) none (Data.fields #[Value.str q218_ 278, Value.str q245_ 279, Value.str q191_ 280, Value.int 43 0, Value.int 2 0, Value.int 0 0, Value.int 0 0, Value.int 3 0, Value.ref 92, Value.bool Bool.true, Value.int 181 0, Value.ref 93, Value.none, Value.ref 94, Value.ref 95, Value.ref 96, Value.int 283 0, Value.int 43 0, Value.str q191_ 284]) #[]
noncomputable def o98 (P : Params) : Obj := ⟨Value.type PySem.W.SL.s7174869446012820540x8, none, .func (mkF q218_ q245_ (fnC 2 9) (Value.none) (Value.none) (Value.none) (Value.str q194_ 194) (none) (Value.ref 97) (Value.none)), #[]⟩
noncomputable def o99 (P : Params) : Obj := Obj.mk (Value.type PySem.W.SL.s2766695959194262286x5) none (Data.seq #[]) #[]
noncomputable def o100 (P : Params) : Obj := Obj.mk Value.none none (Data.fields #[]) #[]
noncomputable def o101 (P : Params) : Obj := Obj.mk (Value.type PySem.W.SL.s2766695959194262286x5) none (Data.seq #[Value.str q3_ 289, Value.str q0_ 290]) #[]
noncomputable def o102 (P : Params) : Obj := Obj.mk (Value.type PySem.W.SL.s2766695959194262286x5) none (Data.seq #[]) #[]
noncomputable def o103 (P : Params) : Obj := ⟨Value.none, none, .func (mkF0 q219_ q246_ (fnC 2 10) (Value.none) (Value.none) (Value.none) (Value.none) (none) (Value.none) (Value.none)), #[]⟩
noncomputable def o104 (P : Params) : Obj := Obj.mk (Value.type PySem.W.SL.s5856160107412720595x4) none (Data.fields #[Value.str q219_ 286, Value.str q246_ 287, Value.str q191_ 288, Value.int 50 0, Value.int 2 0, Value.int 0 0, Value.int 0 0, Value.int 3 0, Value.ref 99, Value.bool Bool.true, Value.int 181 0, Value.ref 100, Value.none, Value.ref 101, Value.ref 102, Value.ref 103, Value.int 291 0, Value.int 50 0, Value.str q191_ 292]) #[]
noncomputable def o105 (P : Params) : Obj := ⟨Value.type PySem.W.SL.s7174869446012820540x8, none, .func (mkF q219_ q246_ (fnC 2 10) (Value.none) (Value.none) (Value.none) (Value.str q194_ 194) (none) (Value.ref 104) (Value.none)), #[]⟩
noncomputable def o106 (P : Params) : Obj := Obj.mk (Value.type PySem.W.SL.s2766695959194262286x5) none (Data.seq #[]) #[]
noncomputable def o107 (P : Params) : Obj := Obj.mk Value.none none (Data.fields #[]) #[]
noncomputable def o108 (P : Params) : Obj := Obj.mk (Value.type PySem.W.SL.s2766695959194262286x5) none (Data.seq #[Value.str q3_ 297, Value.str q0_ 298]) #[]
noncomputable def o109 (P : Params) : Obj := Obj.mk (Value.type PySem.W.SL.s2766695959194262286x5) none (Data.seq #[]) #[]
noncomputable def o110 (P : Params) : Obj := ⟨Value.none, none, .func (mkF0 q220_ q247_ (fnC 2 11) (Value.none) (Value.none) (Value.none) (Value.none) (none) (Value.none) (Value.none)), #[]⟩
noncomputable def o111 (P : Params) : Obj := Obj.mk (Value.type PySem.W.SL.s5856160107412720595x4) none (Data.fields #[Value.str q220_ 294, Value.str q247_ 295, Value.str q191_ 296, Value.int 53 0, Value.int 2 0, Value.int 0 0, Value.int 0 0, Value.int 3 0, Value.ref 106, Value.bool Bool.true, Value.int 181 0, Value.ref 107, Value.none, Value.ref 108, Value.ref 109, Value.ref 110, Value.int 299 0, Value.int 53 0, Value.str q191_ 300]) #[]
noncomputable def o112 (P : Params) : Obj := ⟨Value.type PySem.W.SL.s7174869446012820540x8, none, .func (mkF q220_ q247_ (fnC 2 11) (Value.none) (Value.none) (Value.none) (Value.str q194_ 194) (none) (Value.ref 111) (Value.none)), #[]⟩
noncomputable def o113 (P : Params) : Obj := Obj.mk (Value.type PySem.W.SL.s2766695959194262286x5) none (Data.seq #[]) #[]
noncomputable def o114 (P : Params) : Obj := Obj.mk Value.none none (Data.fields #[]) #[]
noncomputable def o115 (P : Params) : Obj := Obj.mk (Value.type PySem.W.SL.s2766695959194262286x5) none (Data.seq #[Value.str q3_ 305, Value.str q0_ 306]) #[]
noncomputable def o116 (P : Params) : Obj := Obj.mk (Value.type PySem.W.SL.s2766695959194262286x5) none (Data.seq #[]) #[]
noncomputable def o117 (P : Params) : Obj := ⟨Value.none, none, .func (mkF0 q221_ q248_ (fnC 2 12) (Value.none) (Value.none) (Value.none) (Value.none) (none) (Value.none) (Value.none)), #[]⟩
noncomputable def o118 (P : Params) : Obj := Obj.mk (Value.type PySem.W.SL.s5856160107412720595x4) none (Data.fields #[Value.str q221_ 302, Value.str q248_ 303, Value.str q191_ 304, Value.int 56 0, Value.int 2 0, Value.int 0 0, Value.int 0 0, Value.int 3 0, Value.ref 113, Value.bool Bool.true, Value.int 181 0, Value.ref 114, Value.none, Value.ref 115, Value.ref 116, Value.ref 117, Value.int 307 0, Value.int 56 0, Value.str q191_ 308]) #[]
noncomputable def o119 (P : Params) : Obj := ⟨Value.type PySem.W.SL.s7174869446012820540x8, none, .func (mkF q221_ q248_ (fnC 2 12) (Value.none) (Value.none) (Value.none) (Value.str q194_ 194) (none) (Value.ref 118) (Value.none)), #[]⟩
noncomputable def o120 (P : Params) : Obj := Obj.mk (Value.type PySem.W.SL.s2766695959194262286x5) none (Data.seq #[]) #[]
noncomputable def o121 (P : Params) : Obj := Obj.mk Value.none none (Data.fields #[]) #[]
noncomputable def o122 (P : Params) : Obj := Obj.mk (Value.type PySem.W.SL.s2766695959194262286x5) none (Data.seq #[Value.str q3_ 313, Value.str q0_ 314]) #[]
noncomputable def o123 (P : Params) : Obj := Obj.mk (Value.type PySem.W.SL.s2766695959194262286x5) none (Data.seq #[]) #[]
noncomputable def o124 (P : Params) : Obj := ⟨Value.none, none, .func (mkF0 q222_ q249_ (fnC 2 13) (Value.none) (Value.none) (Value.none) (Value.none) (none) (Value.none) (Value.none)), #[]⟩
noncomputable def o125 (P : Params) : Obj := Obj.mk (Value.type PySem.W.SL.s5856160107412720595x4) none (Data.fields #[Value.str q222_ 310, Value.str q249_ 311, Value.str q191_ 312, Value.int 59 0, Value.int 2 0, Value.int 0 0, Value.int 0 0, Value.int 3 0, Value.ref 120, Value.bool Bool.true, Value.int 181 0, Value.ref 121, Value.none, Value.ref 122, Value.ref 123, Value.ref 124, Value.int 315 0, Value.int 59 0, Value.str q191_ 316]) #[]
noncomputable def o126 (P : Params) : Obj := ⟨Value.type PySem.W.SL.s7174869446012820540x8, none, .func (mkF q222_ q249_ (fnC 2 13) (Value.none) (Value.none) (Value.none) (Value.str q194_ 194) (none) (Value.ref 125) (Value.none)), #[]⟩
noncomputable def o127 (P : Params) : Obj := Obj.mk (Value.type PySem.W.SL.s2766695959194262286x5) none (Data.seq #[]) #[]
noncomputable def o128 (P : Params) : Obj := Obj.mk Value.none none (Data.fields #[]) #[]
noncomputable def o129 (P : Params) : Obj := Obj.mk (Value.type PySem.W.SL.s2766695959194262286x5) none (Data.seq #[Value.str q3_ 321, Value.str q250_ 322]) #[]
noncomputable def o130 (P : Params) : Obj := Obj.mk (Value.type PySem.W.SL.s2766695959194262286x5) none (Data.seq #[]) #[]
noncomputable def o131 (P : Params) : Obj := ⟨Value.none, none, .func (mkF0 q223_ q251_ (fnC 2 14) (Value.none) (Value.none) (Value.none) (Value.none) (none) (Value.none) (Value.none)), #[]⟩
noncomputable def o132 (P : Params) : Obj := Obj.mk (Value.type PySem.W.SL.s5856160107412720595x4) none (Data.fields #[Value.str q223_ 318, Value.str q251_ 319, Value.str q191_ 320, Value.int 62 0, Value.int 2 0, Value.int 0 0, Value.int 0 0, Value.int 3 0, Value.ref 127, Value.bool Bool.true, Value.int 181 0, Value.ref 128, Value.none, Value.ref 129, Value.ref 130, Value.ref 131, Value.int 323 0, Value.int 62 0, Value.str q191_ 324]) #[]
noncomputable def o133 (P : Params) : Obj := ⟨Value.type PySem.W.SL.s7174869446012820540x8, none, .func (mkF q223_ q251_ (fnC 2 14) (Value.none) (Value.none) (Value.none) (Value.str q194_ 194) (none) (Value.ref 132) (Value.none)), #[]⟩
noncomputable def o134 (P : Params) : Obj := Obj.mk (Value.type PySem.W.SL.s2766695959194262286x5) none (Data.seq #[]) #[]
noncomputable def o135 (P : Params) : Obj := Obj.mk Value.none none (Data.fields #[]) #[]
noncomputable def o136 (P : Params) : Obj := Obj.mk (Value.type PySem.W.SL.s2766695959194262286x5) none (Data.seq #[Value.str q3_ 329, Value.str q250_ 330, Value.str q252_ 331, Value.str q253_ 332, Value.str q254_ 333, Value.str q255_ 334, Value.str q256_ 335, Value.str q257_ 336, Value.str q258_ 337, Value.str q205_ 338, Value.str q259_ 339, Value.str q260_ 340, Value.str q261_ 341, Value.str q262_ 342]) #[]
noncomputable def o137 (P : Params) : Obj := Obj.mk (Value.type PySem.W.SL.s2766695959194262286x5) none (Data.seq #[]) #[]
noncomputable def o138 (P : Params) : Obj := ⟨Value.none, none, .func (mkF0 q224_ q263_ (fnC 2 15) (Value.none) (Value.none) (Value.none) (Value.none) (none) (Value.none) (Value.none)), #[]⟩
noncomputable def o139 (P : Params) : Obj := Obj.mk (Value.type PySem.W.SL.s5856160107412720595x4) none (Data.fields #[Value.str q224_ 326, Value.str q263_ 327, Value.str q191_ 328, Value.int 65 0, Value.int 2 0, Value.int 0 0, Value.int 0 0, Value.int 3 0, Value.ref 134, Value.bool Bool.true, Value.int 181 0, Value.ref 135, Value.none, Value.ref 136, Value.ref 137, Value.ref 138, Value.int 343 0, Value.int 65 0, Value.str q191_ 344]) #[]
noncomputable def o140 (P : Params) : Obj := ⟨Value.type PySem.W.SL.s7174869446012820540x8, none, .func (mkF q224_ q263_ (fnC 2 15) (Value.none) (Value.none) (Value.none) (Value.str q194_ 194) (none) (Value.ref 139) (Value.none)), #[]⟩
noncomputable def o141 (P : Params) : Obj := Obj.mk (Value.type PySem.W.SL.s2766695959194262286x5) none (Data.seq #[]) #[]
noncomputable def o142 (P : Params) : Obj := Obj.mk Value.none none (Data.fields #[]) #[]
noncomputable def o143 (P : Params) : Obj := Obj.mk (Value.type PySem.W.SL.s2766695959194262286x5) none (Data.seq #[Value.str q3_ 349, Value.str q264_ 350, Value.str q265_ 351, Value.str q0_ 352, Value.str q266_ 353]) #[]
noncomputable def o144 (P : Params) : Obj := Obj.mk (Value.type PySem.W.SL.s2766695959194262286x5) none (Data.seq #[]) #[]
noncomputable def o145 (P : Params) : Obj := ⟨Value.none, none, .func (mkF0 q225_ q267_ (fnC 2 16) (Value.none) (Value.none) (Value.none) (Value.none) (none) (Value.none) (Value.none)), #[]⟩
noncomputable def o146 (P : Params) : Obj := Obj.mk (Value.type PySem.W.SL.s5856160107412720595x4) none (Data.fields #[Value.str q225_ 346, Value.str q267_ 347, Value.str q191_ 348, Value.int 110 0, Value.int 4 0, Value.int 0 0, Value.int 0 0, Value.int 3 0, Value.ref 141, Value.bool Bool.true, Value.int 181 0, Value.ref 142, Value.none, Value.ref 143, Value.ref 144, Value.ref 145, Value.int 354 0, Value.int 110 0, Value.str q191_ 355]) #[]
noncomputable def o147 (P : Params) : Obj := ⟨Value.type PySem.W.SL.s7174869446012820540x8, none, .func (mkF q225_ q267_ (fnC 2 16) (Value.none) (Value.none) (Value.none) (Value.str q194_ 194) (none) (Value.ref 146) (Value.none)), #[]⟩
noncomputable def o148 (P : Params) : Obj := Obj.mk (Value.type PySem.W.SL.s2766695959194262286x5) none (Data.seq #[]) #[]
noncomputable def o149 (P : Params) : Obj := Obj.mk Value.none none (Data.fields #[]) #[]
noncomputable def o150 (P : Params) : Obj := Obj.mk (Value.type PySem.W.SL.s2766695959194262286x5) none (Data.seq #[Value.str q3_ 360, Value.str q0_ 361]) #[]
noncomputable def o151 (P : Params) : Obj := Obj.mk (Value.type PySem.W.SL.s2766695959194262286x5) none (Data.seq #[]) #[]
noncomputable def o152 (P : Params) : Obj := ⟨Value.none, none, .func (mkF0 q226_ q268_ (fnC 2 17) (Value.none) (Value.none) (Value.none) (Value.none) (none) (Value.none) (Value.none)), #[]⟩
noncomputable def o153 (P : Params) : Obj := Obj.mk (Value.type PySem.W.SL.s5856160107412720595x4) none (Data.fields #[Value.str q226_ 357, Value.str q268_ 358, Value.str q191_ 359, Value.int 120 0, Value.int 2 0, Value.int 0 0, Value.int 0 0, Value.int 3 0, Value.ref 148, Value.bool Bool.true, Value.int 181 0, Value.ref 149, Value.none, Value.ref 150, Value.ref 151, Value.ref 152, Value.int 362 0, Value.int 120 0, Value.str q191_ 363]) #[]
noncomputable def o154 (P : Params) : Obj := ⟨Value.type PySem.W.SL.s7174869446012820540x8, none, .func (mkF q226_ q268_ (fnC 2 17) (Value.none) (Value.none) (Value.none) (Value.str q194_ 194) (none) (Value.ref 153) (Value.none)), #[]⟩
noncomputable def o155 (P : Params) : Obj := Obj.mk (Value.type PySem.W.SL.s2766695959194262286x5) none (Data.seq #[]) #[]
noncomputable def o156 (P : Params) : Obj := Obj.mk Value.none none (Data.fields #[]) #[]
noncomputable def o157 (P : Params) : Obj := Obj.mk (Value.type PySem.W.SL.s2766695959194262286x5) none (Data.seq #[Value.str q3_ 368]) #[]
noncomputable def o158 (P : Params) : Obj := Obj.mk (Value.type PySem.W.SL.s2766695959194262286x5) none (Data.seq #[]) #[]
noncomputable def o159 (P : Params) : Obj := ⟨Value.none, none, .func (mkF0 q227_ q269_ (fnC 2 18) (Value.none) (Value.none) (Value.none) (Value.none) (none) (Value.none) (Value.none)), #[]⟩
noncomputable def o160 (P : Params) : Obj := Obj.mk (Value.type PySem.W.SL.s5856160107412720595x4) none (Data.fields #[Value.str q227_ 365, Value.str q269_ 366, Value.str q191_ 367, Value.int 128 0, Value.int 1 0, Value.int 0 0, Value.int 0 0, Value.int 3 0, Value.ref 155, Value.bool Bool.true, Value.int 181 0, Value.ref 156, Value.none, Value.ref 157, Value.ref 158, Value.ref 159, Value.int 369 0, Value.int 128 0, Value.str q191_ 370]) #[]
noncomputable def o161 (P : Params) : Obj := ⟨Value.type PySem.W.SL.s7174869446012820540x8, none, .func (mkF q227_ q269_ (fnC 2 18) (Value.none) (Value.none) (Value.none) (Value.str q194_ 194) (none) (Value.ref 160) (Value.none)), #[]⟩
noncomputable def o162 (P : Params) : Obj := Obj.mk (Value.type PySem.W.SL.s2766695959194262286x5) none (Data.seq #[]) #[]
noncomputable def o163 (P : Params) : Obj := Obj.mk Value.none none (Data.fields #[]) #[]
noncomputable def o164 (P : Params) : Obj := Obj.mk (Value.type PySem.W.SL.s2766695959194262286x5) none (Data.seq #[Value.str q3_ 375, Value.str q264_ 376, Value.str q265_ 377, Value.str q0_ 378]) #[]
noncomputable def o165 (P : Params) : Obj := Obj.mk (Value.type PySem.W.SL.s2766695959194262286x5) none (Data.seq #[]) #[]
noncomputable def o166 (P : Params) : Obj := ⟨Value.none, none, .func (mkF0 q228_ q270_ (fnC 2 19) (Value.none) (Value.none) (Value.none) (Value.none) (none) (Value.none) (Value.none)), #[]⟩
noncomputable def o167 (P : Params) : Obj := Obj.mk (Value.type PySem.W.SL.s5856160107412720595x4) none (Data.fields #[Value.str q228_ 372, Value.str q270_ 373, Value.str q191_ 374, Value.int 131 0, Value.int 4 0, Value.int 0 0, Value.int 0 0, Value.int 3 0, Value.ref 162, Value.bool Bool.true, Value.int 181 0, Value.ref 163, Value.none, Value.ref 164, Value.ref 165, Value.ref 166, Value.int 379 0, Value.int 131 0, Value.str q191_ 380]) #[]
noncomputable def o168 (P : Params) : Obj := ⟨Value.type PySem.W.SL.s7174869446012820540x8, none, .func (mkF q228_ q270_ (fnC 2 19) (Value.none) (Value.none) (Value.none) (Value.str q194_ 194) (none) (Value.ref 167) (Value.none)), #[]⟩
noncomputable def o169 (P : Params) : Obj := Obj.mk (Value.type PySem.W.SL.s2766695959194262286x5) none (Data.seq #[]) #[]
noncomputable def o170 (P : Params) : Obj := Obj.mk Value.none none (Data.fields #[]) #[]
noncomputable def o171 (P : Params) : Obj := Obj.mk (Value.type PySem.W.SL.s2766695959194262286x5) none (Data.seq #[Value.str q3_ 385]) #[]
noncomputable def o172 (P : Params) : Obj := Obj.mk (Value.type PySem.W.SL.s2766695959194262286x5) none (Data.seq #[]) #[]
noncomputable def o173 (P : Params) : Obj := ⟨Value.none, none, .func (mkF0 q229_ q271_ (fnC 2 20) (Value.none) (Value.none) (Value.none) (Value.none) (none) (Value.none) (Value.none)), #[]⟩
noncomputable def o174 (P : Params) : Obj := Obj.mk (Value.type PySem.W.SL.s5856160107412720595x4) none (Data.fields #[Value.str q229_ 382, Value.str q271_ 383, Value.str q191_ 384, Value.int 134 0, Value.int 1 0, Value.int 0 0, Value.int 0 0, Value.int 3 0, Value.ref 169, Value.bool Bool.true, Value.int 181 0, Value.ref 170, Value.none, Value.ref 171, Value.ref 172, Value.ref 173, Value.int 386 0, Value.int 134 0, Value.str q191_ 387]) #[]
noncomputable def o175 (P : Params) : Obj := ⟨Value.type PySem.W.SL.s7174869446012820540x8, none, .func (mkF q229_ q271_ (fnC 2 20) (Value.none) (Value.none) (Value.none) (Value.str q194_ 194) (none) (Value.ref 174) (Value.none)), #[]⟩
noncomputable def o176 (P : Params) : Obj := Obj.mk (Value.type PySem.W.SL.s2766695959194262286x5) none (Data.seq #[]) #[]
noncomputable def o177 (P : Params) : Obj := Obj.mk Value.none none (Data.fields #[]) #[]
noncomputable def o178 (P : Params) : Obj := Obj.mk (Value.type PySem.W.SL.s2766695959194262286x5) none (Data.seq #[Value.str q3_ 392]) #[]
noncomputable def o179 (P : Params) : Obj := Obj.mk (Value.type PySem.W.SL.s2766695959194262286x5) none (Data.seq #[]) #[]
noncomputable def o180 (P : Params) : Obj := ⟨Value.none, none, .func (mkF0 q230_ q272_ (fnC 2 21) (Value.none) (Value.none) (Value.none) (Value.none) (none) (Value.none) (Value.none)), #[]⟩
noncomputable def o181 (P : Params) : Obj := Obj.mk (Value.type PySem.W.SL.s5856160107412720595x4) none (Data.fields #[Value.str q230_ 389, Value.str q272_ 390, Value.str q191_ 391, Value.int 137 0, Value.int 1 0, Value.int 0 0, Value.int 0 0, Value.int 3 0, Value.ref 176, Value.bool Bool.true, Value.int 181 0, Value.ref 177, Value.none, Value.ref 178, Value.ref 179, Value.ref 180, Value.int 393 0, Value.int 137 0, Value.str q191_ 394]) #[]
noncomputable def o182 (P : Params) : Obj := ⟨Value.type PySem.W.SL.s7174869446012820540x8, none, .func (mkF q230_ q272_ (fnC 2 21) (Value.none) (Value.none) (Value.none) (Value.str q194_ 194) (none) (Value.ref 181) (Value.none)), #[]⟩
noncomputable def o183 (P : Params) : Obj := Obj.mk (Value.type PySem.W.SL.s2766695959194262286x5) none (Data.seq #[]) #[]
noncomputable def o184 (P : Params) : Obj := Obj.mk Value.none none (Data.fields #[]) #[]
noncomputable def o185 (P : Params) : Obj := Obj.mk (Value.type PySem.W.SL.s2766695959194262286x5) none (Data.seq #[Value.str q3_ 399, Value.str q273_ 400]) #[]
noncomputable def o186 (P : Params) : Obj := Obj.mk (Value.type PySem.W.SL.s2766695959194262286x5) none (Data.seq #[]) #[]
noncomputable def o187 (P : Params) : Obj := ⟨Value.none, none, .func (mkF0 q231_ q274_ (fnC 2 22) (Value.none) (Value.none) (Value.none) (Value.none) (none) (Value.none) (Value.none)), #[]⟩
noncomputable def o188 (P : Params) : Obj := Obj.mk (Value.type PySem.W.SL.s5856160107412720595x4) none (Data.fields #[Value.str q231_ 396, Value.str q274_ 397, Value.str q191_ 398, Value.int 140 0, Value.int 2 0, Value.int 0 0, Value.int 0 0, Value.int 3 0, Value.ref 183, Value.bool Bool.true, Value.int 181 0, Value.ref 184, Value.none, Value.ref 185, Value.ref 186, Value.ref 187, Value.int 401 0, Value.int 140 0, Value.str q191_ 402]) #[]
noncomputable def o189 (P : Params) : Obj := ⟨Value.type PySem.W.SL.s7174869446012820540x8, none, .func (mkF q231_ q274_ (fnC 2 22) (Value.none) (Value.none) (Value.none) (Value.str q194_ 194) (none) (Value.ref 188) (Value.none)), #[]⟩
noncomputable def o190 (P : Params) : Obj := Obj.mk (Value.type PySem.W.SL.s2766695959194262286x5) none (Data.seq #[]) #[]
noncomputable def o191 (P : Params) : Obj := Obj.mk Value.none none (Data.fields #[]) #[]
noncomputable def o192 (P : Params) : Obj := ⟨Value.none, none, .func (mkF0 q232_ q275_ (fnC 2 23) (Value.none) (Value.none) (Value.none) (Value.none) (none) (Value.none) (Value.none)), #[]⟩
noncomputable def o193 (P : Params) : Obj := Obj.mk (Value.type PySem.W.SL.s5856160107412720595x4) none (Data.fields #[Value.str q232_ 404, Value.str q275_ 405, Value.str q191_ 406, Value.int 145 0, Value.int 2 0, Value.int 0 0, Value.int 0 0, Value.int 3 0, Value.ref 190, Value.bool Bool.true, Value.int 181 0, Value.ref 191, Value.none, Value.none, Value.none, Value.ref 192, Value.int 407 0, Value.int 145 0, Value.str q191_ 408]) #[]
noncomputable def o194 (P : Params) : Obj := ⟨Value.type PySem.W.SL.s7174869446012820540x8, none, .func (mkF q232_ q275_ (fnC 2 23) (Value.none) (Value.none) (Value.none) (Value.str q194_ 194) (none) (Value.ref 193) (Value.none)), #[]⟩
noncomputable def o195 (P : Params) : Obj := Obj.mk (Value.type PySem.W.SL.s2766695959194262286x5) none (Data.seq #[Value.str q276_ 410, Value.str q277_ 411, Value.str q278_ 412, Value.str q279_ 413, Value.str q280_ 414, Value.str q281_ 415]) #[]
noncomputable def o196 (P : Params) : Obj := Obj.mk (Value.type PySem.W.SL.s14018661285674007319x4) none (Data.dict #[DictEntry.mk (PyData.keyHash P q206_) (Value.str q206_ 203) (Value.str q194_ 194), DictEntry.mk (PyData.keyHash P q208_) (Value.str q208_ 207) (Value.int 5 206), DictEntry.mk (PyData.keyHash P q209_) (Value.str q209_ 214) (Value.ref 35), DictEntry.mk (PyData.keyHash P q210_) (Value.str q210_ 222) (Value.ref 42), DictEntry.mk (PyData.keyHash P q211_) (Value.str q211_ 229) (Value.ref 49), DictEntry.mk (PyData.keyHash P q212_) (Value.str q212_ 237) (Value.ref 56), DictEntry.mk (PyData.keyHash P q213_) (Value.str q213_ 245) (Value.ref 63), DictEntry.mk (PyData.keyHash P q214_) (Value.str q214_ 253) (Value.ref 70), DictEntry.mk (PyData.keyHash P q215_) (Value.str q215_ 261) (Value.ref 77), DictEntry.mk (PyData.keyHash P q216_) (Value.str q216_ 269) (Value.ref 84), DictEntry.mk (PyData.keyHash P q217_) (Value.str q217_ 277) (Value.ref 91), DictEntry.mk (PyData.keyHash P q218_) (Value.str q218_ 285) (Value.ref 98), DictEntry.mk (PyData.keyHash P q219_) (Value.str q219_ 293) (Value.ref 105), DictEntry.mk (PyData.keyHash P q220_) (Value.str q220_ 301) (Value.ref 112), DictEntry.mk (PyData.keyHash P q221_) (Value.str q221_ 309) (Value.ref 119), DictEntry.mk (PyData.keyHash P q222_) (Value.str q222_ 317) (Value.ref 126), DictEntry.mk (PyData.keyHash P q223_) (Value.str q223_ 325) (Value.ref 133), DictEntry.mk (PyData.keyHash P q224_) (Value.str q224_ 345) (Value.ref 140), DictEntry.mk (PyData.keyHash P q225_) (Value.str q225_ 356) (Value.ref 147), DictEntry.mk (PyData.keyHash P q226_) (Value.str q226_ 364) (Value.ref 154), DictEntry.mk (PyData.keyHash P q227_) (Value.str q227_ 371) (Value.ref 161), DictEntry.mk (PyData.keyHash P q228_) (Value.str q228_ 381) (Value.ref 168), DictEntry.mk (PyData.keyHash P q229_) (Value.str q229_ 388) (Value.ref 175), DictEntry.mk (PyData.keyHash P q230_) (Value.str q230_ 395) (Value.ref 182), DictEntry.mk (PyData.keyHash P q231_) (Value.str q231_ 403) (Value.ref 189), DictEntry.mk (PyData.keyHash P q232_) (Value.str q232_ 409) (Value.ref 194), DictEntry.mk (PyData.keyHash P q233_) (Value.str q233_ 416) (Value.ref 195), DictEntry.mk (PyData.keyHash P q282_) (Value.str q282_ 418) (Value.ref 198), DictEntry.mk (PyData.keyHash P q283_) (Value.str q283_ 420) (Value.ref 199), DictEntry.mk (PyData.keyHash P q195_) (Value.str q195_ 421) Value.none] 4) #[]
noncomputable def o197 (P : Params) : Obj := Obj.mk (Value.type PySem.W.SL.s17162191345867700912x4) none (Data.cls (ClassData.mk q204_ [Value.type PySem.W.SL.s2742458400755230247x6] [Value.ref 197, Value.type PySem.W.SL.s2742458400755230247x6] 196 q204_ Bool.true [] [] Bool.false none Bool.false)) #[none, none, some (Value.str q204_ 196), some (Value.str q204_ 204), some (Value.builtin PySem.W.SL.s11443829558043349243x14), some (Value.bool Bool.true)]
noncomputable def o198 (P : Params) : Obj := Obj.mk (Value.type PySem.W.SL.s14755015743595814543x17) none (Data.fields #[Value.str q282_ 417, Value.ref 197, Value.builtin PySem.W.SL.s6511155373996960695x17, Value.builtin PySem.W.SL.s12411053484034534018x21]) #[]
noncomputable def o199 (P : Params) : Obj := Obj.mk (Value.type PySem.W.SL.s14755015743595814543x17) none (Data.fields #[Value.str q283_ 419, Value.ref 197, Value.builtin PySem.W.SL.s10220274742760427390x26, Value.none]) #[]
noncomputable def o200 (P : Params) : Obj := Obj.mk (Value.type PySem.W.SL.s4290257624100764138x5) none (Data.fields #[Value.ref 197, Value.ref 197, Value.ref 197]) #[]
noncomputable def o201 (P : Params) : Obj := Obj.mk (Value.type PySem.W.SL.s11030030927630378310x26) none (Data.fields #[Value.builtin PySem.W.SL.s4860613602091757760x24, Value.ref 197]) #[]
noncomputable def o3v5 (P : Params) : Obj := Obj.mk (Value.type PySem.W.SL.s14018661285674007319x4) none (Data.dict #[DictEntry.mk (PyData.keyHash P q193_) (Value.str q193_ 165) (Value.str q284_ 459), DictEntry.mk (PyData.keyHash P q195_) (Value.str q195_ 166) Value.none, DictEntry.mk (PyData.keyHash P q196_) (Value.str q196_ 167) Value.none, DictEntry.mk (PyData.keyHash P q197_) (Value.str q197_ 168) (Value.builtin PySem.W.SL.s7097527257260152453x26), DictEntry.mk (PyData.keyHash P q198_) (Value.str q198_ 169) Value.none, DictEntry.mk (PyData.keyHash P q199_) (Value.str q199_ 170) (Value.ref 6), DictEntry.mk (PyData.keyHash P q200_) (Value.str q200_ 171) (Value.ref 4), DictEntry.mk (PyData.keyHash P q201_) (Value.str q201_ 173) (Value.str q191_ 172), DictEntry.mk (PyData.keyHash P q202_) (Value.str q202_ 174) Value.none, DictEntry.mk (PyData.keyHash P q203_) (Value.str q203_ 193) (Value.ref 21), DictEntry.mk (PyData.keyHash P q204_) (Value.str q204_ 423) (Value.ref 197), DictEntry.mk (PyData.keyHash P q285_) (Value.str q285_ 458) (Value.ref 218)] 12) #[]
noncomputable def o12v3 (P : Params) : Obj := Obj.mk Value.none none (Data.fields #[Value.int 1 0, Value.int 0 0, Value.ref 20, Value.int 5 0, Value.int 0 0, Value.ref 27, Value.int 148 0, Value.int 0 0, Value.ref 207]) #[]
noncomputable def o202 (P : Params) : Obj := Obj.mk (Value.type PySem.W.SL.s2766695959194262286x5) none (Data.seq #[]) #[]
noncomputable def o203 (P : Params) : Obj := Obj.mk (Value.type PySem.W.SL.s11030030927630378310x26) none (Data.fields #[Value.builtin PySem.W.SL.s10062305145149207511x16, Value.type PySem.W.SL.s17162191345867700912x4]) #[]
noncomputable def o204 (P : Params) : Obj := Obj.mk (Value.type PySem.W.SL.s14018661285674007319x4) none (Data.dict #[DictEntry.mk (PyData.keyHash P q206_) (Value.str q206_ 433) (Value.str q286_ 424), DictEntry.mk (PyData.keyHash P q207_) (Value.str q207_ 435) (Value.str q285_ 434), DictEntry.mk (PyData.keyHash P q208_) (Value.str q208_ 437) (Value.int 148 436), DictEntry.mk (PyData.keyHash P q209_) (Value.str q209_ 447) (Value.ref 215), DictEntry.mk (PyData.keyHash P q233_) (Value.str q233_ 451) (Value.ref 216)] 5) #[]
noncomputable def o205 (P : Params) : Obj := Obj.mk (Value.type PySem.W.SL.s2766695959194262286x5) none (Data.seq #[]) #[]
noncomputable def o206 (P : Params) : Obj := Obj.mk Value.none none (Data.fields #[Value.int 150 0, Value.int 4 0, Value.ref 214]) #[]
noncomputable def o207 (P : Params) : Obj := Obj.mk (Value.type PySem.W.SL.s5856160107412720595x4) none (Data.fields #[Value.str q285_ 428, Value.str q285_ 429, Value.str q191_ 430, Value.int 148 0, Value.int 0 0, Value.int 0 0, Value.int 0 0, Value.int 0 0, Value.ref 205, Value.bool Bool.false, Value.int 181 0, Value.ref 206, Value.none, Value.none, Value.none, Value.none, Value.int 431 0, Value.int 148 0, Value.str q191_ 432]) #[]
noncomputable def o208 (P : Params) : Obj := Obj.mk (Value.type PySem.W.SL.s658472552662922059x5) none Data.plain #[some (Value.ref 207), some (Value.ref 3), some (Value.ref 204), none, some (Value.str q286_ 424), none, some (Value.ref 0)]
noncomputable def o209 (P : Params) : Obj := Obj.mk (Value.type PySem.W.SL.s2766695959194262286x5) none (Data.seq #[]) #[]
noncomputable def o210 (P : Params) : Obj := Obj.mk Value.none none (Data.fields #[]) #[]
noncomputable def o211 (P : Params) : Obj := Obj.mk (Value.type PySem.W.SL.s2766695959194262286x5) none (Data.seq #[Value.str q3_ 441, Value.str q0_ 442, Value.str q1_ 443, Value.str q2_ 444]) #[]
noncomputable def o212 (P : Params) : Obj := Obj.mk (Value.type PySem.W.SL.s2766695959194262286x5) none (Data.seq #[]) #[]
noncomputable def o213 (P : Params) : Obj := ⟨Value.none, none, .func (mkF0 q209_ q287_ (fnC 4 0) (Value.none) (Value.none) (Value.none) (Value.none) (none) (Value.none) (Value.none)), #[]⟩
noncomputable def o214 (P : Params) : Obj := Obj.mk (Value.type PySem.W.SL.s5856160107412720595x4) none (Data.fields #[Value.str q209_ 438, Value.str q287_ 439, Value.str q191_ 440, Value.int 150 0, Value.int 4 0, Value.int 0 0, Value.int 0 0, Value.int 3 0, Value.ref 209, Value.bool Bool.true, Value.int 181 0, Value.ref 210, Value.none, Value.ref 211, Value.ref 212, Value.ref 213, Value.int 445 0, Value.int 150 0, Value.str q191_ 446]) #[]
noncomputable def o215 (P : Params) : Obj := ⟨Value.type PySem.W.SL.s7174869446012820540x8, none, .func (mkF q209_ q287_ (fnC 4 0) (Value.none) (Value.none) (Value.none) (Value.str q286_ 424) (none) (Value.ref 214) (Value.none)), #[]⟩
noncomputable def o216 (P : Params) : Obj := Obj.mk (Value.type PySem.W.SL.s2766695959194262286x5) none (Data.seq #[Value.str q2_ 448, Value.str q0_ 449, Value.str q1_ 450]) #[]
noncomputable def o217 (P : Params) : Obj := Obj.mk (Value.type PySem.W.SL.s14018661285674007319x4) none (Data.dict #[DictEntry.mk (PyData.keyHash P q206_) (Value.str q206_ 433) (Value.str q286_ 424), DictEntry.mk (PyData.keyHash P q208_) (Value.str q208_ 437) (Value.int 148 436), DictEntry.mk (PyData.keyHash P q209_) (Value.str q209_ 447) (Value.ref 215), DictEntry.mk (PyData.keyHash P q233_) (Value.str q233_ 451) (Value.ref 216), DictEntry.mk (PyData.keyHash P q282_) (Value.str q282_ 453) (Value.ref 219), DictEntry.mk (PyData.keyHash P q283_) (Value.str q283_ 455) (Value.ref 220), DictEntry.mk (PyData.keyHash P q195_) (Value.str q195_ 456) Value.none] 4) #[]
noncomputable def o218 (P : Params) : Obj := Obj.mk (Value.type PySem.W.SL.s17162191345867700912x4) none (Data.cls (ClassData.mk q285_ [Value.type PySem.W.SL.s2742458400755230247x6] [Value.ref 218, Value.type PySem.W.SL.s2742458400755230247x6] 217 q285_ Bool.true [] [] Bool.false none Bool.false)) #[none, none, some (Value.str q285_ 426), some (Value.str q285_ 434), some (Value.builtin PySem.W.SL.s11443829558043349243x14), some (Value.bool Bool.true)]
noncomputable def o219 (P : Params) : Obj := Obj.mk (Value.type PySem.W.SL.s14755015743595814543x17) none (Data.fields #[Value.str q282_ 452, Value.ref 218, Value.builtin PySem.W.SL.s6511155373996960695x17, Value.builtin PySem.W.SL.s12411053484034534018x21]) #[]
noncomputable def o220 (P : Params) : Obj := Obj.mk (Value.type PySem.W.SL.s14755015743595814543x17) none (Data.fields #[Value.str q283_ 454, Value.ref 218, Value.builtin PySem.W.SL.s10220274742760427390x26, Value.none]) #[]
noncomputable def o221 (P : Params) : Obj := Obj.mk (Value.type PySem.W.SL.s4290257624100764138x5) none (Data.fields #[Value.ref 218, Value.ref 218, Value.ref 218]) #[]
noncomputable def o222 (P : Params) : Obj := Obj.mk (Value.type PySem.W.SL.s11030030927630378310x26) none (Data.fields #[Value.builtin PySem.W.SL.s4860613602091757760x24, Value.ref 218]) #[]
noncomputable def o12v4 (P : Params) : Obj := Obj.mk Value.none none (Data.fields #[Value.int 1 0, Value.int 0 0, Value.ref 20, Value.int 5 0, Value.int 0 0, Value.ref 27, Value.int 148 0, Value.int 0 0, Value.ref 207, Value.int 155 0, Value.int 0 0, Value.ref 228]) #[]
noncomputable def o223 (P : Params) : Obj := Obj.mk (Value.type PySem.W.SL.s2766695959194262286x5) none (Data.seq #[Value.ref 197]) #[]
noncomputable def o224 (P : Params) : Obj := Obj.mk (Value.type PySem.W.SL.s11030030927630378310x26) none (Data.fields #[Value.builtin PySem.W.SL.s10062305145149207511x16, Value.type PySem.W.SL.s17162191345867700912x4]) #[]
noncomputable def o225 (P : Params) : Obj := Obj.mk (Value.type PySem.W.SL.s14018661285674007319x4) none (Data.dict #[DictEntry.mk (PyData.keyHash P q206_) (Value.str q206_ 468) (Value.str q284_ 459), DictEntry.mk (PyData.keyHash P q207_) (Value.str q207_ 470) (Value.str q288_ 469), DictEntry.mk (PyData.keyHash P q208_) (Value.str q208_ 472) (Value.int 155 471)] 3) #[]
noncomputable def o226 (P : Params) : Obj := Obj.mk (Value.type PySem.W.SL.s2766695959194262286x5) none (Data.seq #[]) #[]
noncomputable def o227 (P : Params) : Obj := Obj.mk Value.none none (Data.fields #[]) #[]
noncomputable def o228 (P : Params) : Obj := Obj.mk (Value.type PySem.W.SL.s5856160107412720595x4) none (Data.fields #[Value.str q288_ 463, Value.str q288_ 464, Value.str q191_ 465, Value.int 155 0, Value.int 0 0, Value.int 0 0, Value.int 0 0, Value.int 0 0, Value.ref 226, Value.bool Bool.false, Value.int 181 0, Value.ref 227, Value.none, Value.none, Value.none, Value.none, Value.int 466 0, Value.int 155 0, Value.str q191_ 467]) #[]
noncomputable def o229 (P : Params) : Obj := Obj.mk (Value.type PySem.W.SL.s658472552662922059x5) none Data.plain #[some (Value.ref 228), some (Value.ref 3), some (Value.ref 225), none, some (Value.str q284_ 459), none, some (Value.ref 0)]
noncomputable def o225v1 (P : Params) : Obj := Obj.mk (Value.type PySem.W.SL.s14018661285674007319x4) none (Data.dict #[DictEntry.mk (PyData.keyHash P q206_) (Value.str q206_ 468) (Value.str q284_ 459), DictEntry.mk (PyData.keyHash P q207_) (Value.str q207_ 470) (Value.str q288_ 469), DictEntry.mk (PyData.keyHash P q208_) (Value.str q208_ 472) (Value.int 155 471), DictEntry.mk (PyData.keyHash P q289_) (Value.str q289_ 489) (Value.ref 230)] 4) #[]
noncomputable def o225v9 (P : Params) : Obj := Obj.mk (Value.type PySem.W.SL.s14018661285674007319x4) none (Data.dict #[DictEntry.mk (PyData.keyHash P q206_) (Value.str q206_ 468) (Value.str q284_ 459), DictEntry.mk (PyData.keyHash P q207_) (Value.str q207_ 470) (Value.str q288_ 469), DictEntry.mk (PyData.keyHash P q208_) (Value.str q208_ 472) (Value.int 155 471), DictEntry.mk (PyData.keyHash P q289_) (Value.str q289_ 489) (Value.ref 230), DictEntry.mk (PyData.keyHash P q290_) (Value.str q290_ 491) (Value.int 0 490), DictEntry.mk (PyData.keyHash P q291_) (Value.str q291_ 493) (Value.int 0 492), DictEntry.mk (PyData.keyHash P q292_) (Value.str q292_ 501) (Value.ref 237), DictEntry.mk (PyData.keyHash P q293_) (Value.str q293_ 508) (Value.ref 244), DictEntry.mk (PyData.keyHash P q294_) (Value.str q294_ 515) (Value.ref 251), DictEntry.mk (PyData.keyHash P q295_) (Value.str q295_ 522) (Value.ref 258), DictEntry.mk (PyData.keyHash P q296_) (Value.str q296_ 529) (Value.ref 265), DictEntry.mk (PyData.keyHash P q297_) (Value.str q297_ 541) (Value.ref 272)] 12) #[]
noncomputable def o227v6 (P : Params) : Obj := Obj.mk Value.none none (Data.fields #[Value.int 160 0, Value.int 4 0, Value.ref 236, Value.int 184 0, Value.int 4 0, Value.ref 243, Value.int 192 0, Value.int 4 0, Value.ref 250, Value.int 200 0, Value.int 4 0, Value.ref 257, Value.int 208 0, Value.int 4 0, Value.ref 264, Value.int 218 0, Value.int 4 0, Value.ref 271]) #[]
noncomputable def o231 (P : Params) : Obj := Obj.mk (Value.type PySem.W.SL.s2766695959194262286x5) none (Data.seq #[]) #[]
noncomputable def o232 (P : Params) : Obj := Obj.mk Value.none none (Data.fields #[]) #[]
noncomputable def o233 (P : Params) : Obj := Obj.mk (Value.type PySem.W.SL.s2766695959194262286x5) none (Data.seq #[Value.str q3_ 497, Value.str q298_ 498]) #[]
noncomputable def o234 (P : Params) : Obj := Obj.mk (Value.type PySem.W.SL.s2766695959194262286x5) none (Data.seq #[]) #[]
noncomputable def o235 (P : Params) : Obj := ⟨Value.none, none, .func (mkF0 q292_ q299_ (fnC 6 3) (Value.none) (Value.none) (Value.none) (Value.none) (none) (Value.none) (Value.none)), #[]⟩
noncomputable def o236 (P : Params) : Obj := Obj.mk (Value.type PySem.W.SL.s5856160107412720595x4) none (Data.fields #[Value.str q292_ 494, Value.str q299_ 495, Value.str q191_ 496, Value.int 160 0, Value.int 1 0, Value.int 0 0, Value.int 0 0, Value.int 3 0, Value.ref 231, Value.bool Bool.true, Value.int 181 0, Value.ref 232, Value.none, Value.ref 233, Value.ref 234, Value.ref 235, Value.int 499 0, Value.int 160 0, Value.str q191_ 500]) #[]
noncomputable def o237 (P : Params) : Obj := ⟨Value.type PySem.W.SL.s7174869446012820540x8, none, .func (mkF q292_ q299_ (fnC 6 3) (Value.none) (Value.none) (Value.none) (Value.str q284_ 459) (none) (Value.ref 236) (Value.none)), #[]⟩
noncomputable def o238 (P : Params) : Obj := Obj.mk (Value.type PySem.W.SL.s2766695959194262286x5) none (Data.seq #[]) #[]
noncomputable def o239 (P : Params) : Obj := Obj.mk Value.none none (Data.fields #[]) #[]
noncomputable def o240 (P : Params) : Obj := Obj.mk (Value.type PySem.W.SL.s2766695959194262286x5) none (Data.seq #[Value.str q3_ 505]) #[]
noncomputable def o241 (P : Params) : Obj := Obj.mk (Value.type PySem.W.SL.s2766695959194262286x5) none (Data.seq #[]) #[]
noncomputable def o242 (P : Params) : Obj := ⟨Value.none, none, .func (mkF0 q293_ q300_ (fnC 6 4) (Value.none) (Value.none) (Value.none) (Value.none) (none) (Value.none) (Value.none)), #[]⟩
noncomputable def o243 (P : Params) : Obj := Obj.mk (Value.type PySem.W.SL.s5856160107412720595x4) none (Data.fields #[Value.str q293_ 502, Value.str q300_ 503, Value.str q191_ 504, Value.int 184 0, Value.int 1 0, Value.int 0 0, Value.int 0 0, Value.int 3 0, Value.ref 238, Value.bool Bool.true, Value.int 181 0, Value.ref 239, Value.none, Value.ref 240, Value.ref 241, Value.ref 242, Value.int 506 0, Value.int 184 0, Value.str q191_ 507]) #[]
noncomputable def o244 (P : Params) : Obj := ⟨Value.type PySem.W.SL.s7174869446012820540x8, none, .func (mkF q293_ q300_ (fnC 6 4) (Value.none) (Value.none) (Value.none) (Value.str q284_ 459) (none) (Value.ref 243) (Value.none)), #[]⟩
noncomputable def o245 (P : Params) : Obj := Obj.mk (Value.type PySem.W.SL.s2766695959194262286x5) none (Data.seq #[]) #[]
noncomputable def o246 (P : Params) : Obj := Obj.mk Value.none none (Data.fields #[]) #[]
noncomputable def o247 (P : Params) : Obj := Obj.mk (Value.type PySem.W.SL.s2766695959194262286x5) none (Data.seq #[Value.str q3_ 512]) #[]
noncomputable def o248 (P : Params) : Obj := Obj.mk (Value.type PySem.W.SL.s2766695959194262286x5) none (Data.seq #[]) #[]
noncomputable def o249 (P : Params) : Obj := ⟨Value.none, none, .func (mkF0 q294_ q301_ (fnC 6 5) (Value.none) (Value.none) (Value.none) (Value.none) (none) (Value.none) (Value.none)), #[]⟩
noncomputable def o250 (P : Params) : Obj := Obj.mk (Value.type PySem.W.SL.s5856160107412720595x4) none (Data.fields #[Value.str q294_ 509, Value.str q301_ 510, Value.str q191_ 511, Value.int 192 0, Value.int 1 0, Value.int 0 0, Value.int 0 0, Value.int 3 0, Value.ref 245, Value.bool Bool.true, Value.int 181 0, Value.ref 246, Value.none, Value.ref 247, Value.ref 248, Value.ref 249, Value.int 513 0, Value.int 192 0, Value.str q191_ 514]) #[]
noncomputable def o251 (P : Params) : Obj := ⟨Value.type PySem.W.SL.s7174869446012820540x8, none, .func (mkF q294_ q301_ (fnC 6 5) (Value.none) (Value.none) (Value.none) (Value.str q284_ 459) (none) (Value.ref 250) (Value.none)), #[]⟩
noncomputable def o252 (P : Params) : Obj := Obj.mk (Value.type PySem.W.SL.s2766695959194262286x5) none (Data.seq #[]) #[]
noncomputable def o253 (P : Params) : Obj := Obj.mk Value.none none (Data.fields #[]) #[]
noncomputable def o254 (P : Params) : Obj := Obj.mk (Value.type PySem.W.SL.s2766695959194262286x5) none (Data.seq #[Value.str q3_ 519]) #[]
noncomputable def o255 (P : Params) : Obj := Obj.mk (Value.type PySem.W.SL.s2766695959194262286x5) none (Data.seq #[]) #[]
noncomputable def o256 (P : Params) : Obj := ⟨Value.none, none, .func (mkF0 q295_ q302_ (fnC 6 6) (Value.none) (Value.none) (Value.none) (Value.none) (none) (Value.none) (Value.none)), #[]⟩
noncomputable def o257 (P : Params) : Obj := Obj.mk (Value.type PySem.W.SL.s5856160107412720595x4) none (Data.fields #[Value.str q295_ 516, Value.str q302_ 517, Value.str q191_ 518, Value.int 200 0, Value.int 1 0, Value.int 0 0, Value.int 0 0, Value.int 3 0, Value.ref 252, Value.bool Bool.true, Value.int 181 0, Value.ref 253, Value.none, Value.ref 254, Value.ref 255, Value.ref 256, Value.int 520 0, Value.int 200 0, Value.str q191_ 521]) #[]
noncomputable def o258 (P : Params) : Obj := ⟨Value.type PySem.W.SL.s7174869446012820540x8, none, .func (mkF q295_ q302_ (fnC 6 6) (Value.none) (Value.none) (Value.none) (Value.str q284_ 459) (none) (Value.ref 257) (Value.none)), #[]⟩
noncomputable def o259 (P : Params) : Obj := Obj.mk (Value.type PySem.W.SL.s2766695959194262286x5) none (Data.seq #[]) #[]
noncomputable def o260 (P : Params) : Obj := Obj.mk Value.none none (Data.fields #[]) #[]
noncomputable def o261 (P : Params) : Obj := Obj.mk (Value.type PySem.W.SL.s2766695959194262286x5) none (Data.seq #[Value.str q3_ 526]) #[]
noncomputable def o262 (P : Params) : Obj := Obj.mk (Value.type PySem.W.SL.s2766695959194262286x5) none (Data.seq #[]) #[]
noncomputable def o263 (P : Params) : Obj := ⟨Value.none, none, .func (mkF0 q296_ q303_ (fnC 6 7) (Value.none) (Value.none) (Value.none) (Value.none) (none) (Value.none) (Value.none)), #[]⟩
noncomputable def o264 (P : Params) : Obj := Obj.mk (Value.type PySem.W.SL.s5856160107412720595x4) none (Data.fields #[Value.str q296_ 523, Value.str q303_ 524, Value.str q191_ 525, Value.int 208 0, Value.int 1 0, Value.int 0 0, Value.int 0 0, Value.int 3 0, Value.ref 259, Value.bool Bool.true, Value.int 181 0, Value.ref 260, Value.none, Value.ref 261, Value.ref 262, Value.ref 263, Value.int 527 0, Value.int 208 0, Value.str q191_ 528]) #[]
noncomputable def o265 (P : Params) : Obj := ⟨Value.type PySem.W.SL.s7174869446012820540x8, none, .func (mkF q296_ q303_ (fnC 6 7) (Value.none) (Value.none) (Value.none) (Value.str q284_ 459) (none) (Value.ref 264) (Value.none)), #[]⟩
noncomputable def o266 (P : Params) : Obj := Obj.mk (Value.type PySem.W.SL.s2766695959194262286x5) none (Data.seq #[]) #[]
noncomputable def o267 (P : Params) : Obj := Obj.mk Value.none none (Data.fields #[]) #[]
noncomputable def o268 (P : Params) : Obj := Obj.mk (Value.type PySem.W.SL.s2766695959194262286x5) none (Data.seq #[Value.str q3_ 533, Value.str q304_ 534, Value.str q305_ 535, Value.str q306_ 536, Value.str q307_ 537, Value.str q308_ 538]) #[]
noncomputable def o269 (P : Params) : Obj := Obj.mk (Value.type PySem.W.SL.s2766695959194262286x5) none (Data.seq #[]) #[]
noncomputable def o270 (P : Params) : Obj := ⟨Value.none, none, .func (mkF0 q297_ q309_ (fnC 6 8) (Value.none) (Value.none) (Value.none) (Value.none) (none) (Value.none) (Value.none)), #[]⟩
noncomputable def o271 (P : Params) : Obj := Obj.mk (Value.type PySem.W.SL.s5856160107412720595x4) none (Data.fields #[Value.str q297_ 530, Value.str q309_ 531, Value.str q191_ 532, Value.int 218 0, Value.int 1 0, Value.int 0 0, Value.int 0 0, Value.int 3 0, Value.ref 266, Value.bool Bool.true, Value.int 181 0, Value.ref 267, Value.none, Value.ref 268, Value.ref 269, Value.ref 270, Value.int 539 0, Value.int 218 0, Value.str q191_ 540]) #[]
noncomputable def o272 (P : Params) : Obj := ⟨Value.type PySem.W.SL.s7174869446012820540x8, none, .func (mkF q297_ q309_ (fnC 6 8) (Value.none) (Value.none) (Value.none) (Value.str q284_ 459) (none) (Value.ref 271) (Value.none)), #[]⟩
noncomputable def o225v10 (P : Params) : Obj := Obj.mk (Value.type PySem.W.SL.s14018661285674007319x4) none (Data.dict #[DictEntry.mk (PyData.keyHash P q206_) (Value.str q206_ 468) (Value.str q284_ 459), DictEntry.mk (PyData.keyHash P q207_) (Value.str q207_ 470) (Value.str q288_ 469), DictEntry.mk (PyData.keyHash P q208_) (Value.str q208_ 472) (Value.int 155 471), DictEntry.mk (PyData.keyHash P q289_) (Value.str q289_ 489) (Value.ref 230), DictEntry.mk (PyData.keyHash P q290_) (Value.str q290_ 491) (Value.int 0 490), DictEntry.mk (PyData.keyHash P q291_) (Value.str q291_ 493) (Value.int 0 492), DictEntry.mk (PyData.keyHash P q292_) (Value.str q292_ 501) (Value.ref 237), DictEntry.mk (PyData.keyHash P q293_) (Value.str q293_ 508) (Value.ref 244), DictEntry.mk (PyData.keyHash P q294_) (Value.str q294_ 515) (Value.ref 251), DictEntry.mk (PyData.keyHash P q295_) (Value.str q295_ 522) (Value.ref 258), DictEntry.mk (PyData.keyHash P q296_) (Value.str q296_ 529) (Value.ref 265), DictEntry.mk (PyData.keyHash P q297_) (Value.str q297_ 541) (Value.ref 272), DictEntry.mk (PyData.keyHash P q310_) (Value.str q310_ 859) (Value.ref 342)] 13) #[]
noncomputable def o342 (P : Params) : Obj := Obj.mk (Value.type PySem.W.SL.s9222952809800978799x4) none (Data.seq #[Value.ref 274, Value.ref 277, Value.ref 280, Value.ref 283, Value.ref 286, Value.ref 289, Value.ref 292, Value.ref 295, Value.ref 298, Value.ref 301, Value.ref 304, Value.ref 307, Value.ref 310, Value.ref 313, Value.ref 316, Value.ref 319, Value.ref 322, Value.ref 325, Value.ref 328, Value.ref 331, Value.ref 334, Value.ref 337, Value.ref 340]) #[]
noncomputable def o225v11 (P : Params) : Obj := Obj.mk (Value.type PySem.W.SL.s14018661285674007319x4) none (Data.dict #[DictEntry.mk (PyData.keyHash P q206_) (Value.str q206_ 468) (Value.str q284_ 459), DictEntry.mk (PyData.keyHash P q207_) (Value.str q207_ 470) (Value.str q288_ 469), DictEntry.mk (PyData.keyHash P q208_) (Value.str q208_ 472) (Value.int 155 471), DictEntry.mk (PyData.keyHash P q289_) (Value.str q289_ 489) (Value.ref 230), DictEntry.mk (PyData.keyHash P q290_) (Value.str q290_ 491) (Value.int 0 490), DictEntry.mk (PyData.keyHash P q291_) (Value.str q291_ 493) (Value.int 0 492), DictEntry.mk (PyData.keyHash P q292_) (Value.str q292_ 501) (Value.ref 237), DictEntry.mk (PyData.keyHash P q293_) (Value.str q293_ 508) (Value.ref 244), DictEntry.mk (PyData.keyHash P q294_) (Value.str q294_ 515) (Value.ref 251), DictEntry.mk (PyData.keyHash P q295_) (Value.str q295_ 522) (Value.ref 258), DictEntry.mk (PyData.keyHash P q296_) (Value.str q296_ 529) (Value.ref 265), DictEntry.mk (PyData.keyHash P q297_) (Value.str q297_ 541) (Value.ref 272), DictEntry.mk (PyData.keyHash P q310_) (Value.str q310_ 859) (Value.ref 342), DictEntry.mk (PyData.keyHash P q311_) (Value.str q311_ 1819) (Value.ref 556)] 14) #[]
noncomputable def o556 (P : Params) : Obj := Obj.mk (Value.type PySem.W.SL.s9222952809800978799x4) none (Data.seq (Value.ref 344 :: Value.ref 347 :: Value.ref 350 :: Value.ref 353 :: Value.ref 356 :: Value.ref 359 :: Value.ref 362 :: Value.ref 365 :: Value.ref 368 :: Value.ref 371 :: Value.ref 374 :: Value.ref 377 :: Value.ref 380 :: Value.ref 383 :: Value.ref 386 :: Value.ref 389 :: Value.ref 392 :: Value.ref 395 :: Value.ref 398 :: Value.ref 401 :: Value.ref 404 :: Value.ref 407 :: Value.ref 410 :: Value.ref 413 :: Value.ref 416 :: Value.ref 419 :: Value.ref 422 :: Value.ref 425 :: Value.ref 428 :: Value.ref 431 :: Value.ref 434 :: Value.ref 437 :: Value.ref 440 :: Value.ref 443 :: Value.ref 446 :: Value.ref 449 :: Value.ref 452 :: Value.ref 455 :: Value.ref 458 :: Value.ref 461 :: Value.ref 464 :: Value.ref 467 :: Value.ref 470 :: Value.ref 473 :: Value.ref 476 :: Value.ref 479 :: Value.ref 482 :: Value.ref 485 :: Value.ref 488 :: Value.ref 491 :: Value.ref 494 :: Value.ref 497 :: Value.ref 500 :: Value.ref 503 :: Value.ref 506 :: Value.ref 509 :: Value.ref 512 :: Value.ref 515 :: Value.ref 518 :: Value.ref 521 :: Value.ref 524 :: Value.ref 527 :: Value.ref 530 :: Value.ref 533 :: Value.ref 536 :: Value.ref 539 :: Value.ref 542 :: Value.ref 545 :: Value.ref 548 :: Value.ref 551 :: Value.ref 554 :: []).toArray) #[]
noncomputable def o225v12 (P : Params) : Obj := Obj.mk (Value.type PySem.W.SL.s14018661285674007319x4) none (Data.dict #[DictEntry.mk (PyData.keyHash P q206_) (Value.str q206_ 468) (Value.str q284_ 459), DictEntry.mk (PyData.keyHash P q207_) (Value.str q207_ 470) (Value.str q288_ 469), DictEntry.mk (PyData.keyHash P q208_) (Value.str q208_ 472) (Value.int 155 471), DictEntry.mk (PyData.keyHash P q289_) (Value.str q289_ 489) (Value.ref 230), DictEntry.mk (PyData.keyHash P q290_) (Value.str q290_ 491) (Value.int 0 490), DictEntry.mk (PyData.keyHash P q291_) (Value.str q291_ 493) (Value.int 0 492), DictEntry.mk (PyData.keyHash P q292_) (Value.str q292_ 501) (Value.ref 237), DictEntry.mk (PyData.keyHash P q293_) (Value.str q293_ 508) (Value.ref 244), DictEntry.mk (PyData.keyHash P q294_) (Value.str q294_ 515) (Value.ref 251), DictEntry.mk (PyData.keyHash P q295_) (Value.str q295_ 522) (Value.ref 258), DictEntry.mk (PyData.keyHash P q296_) (Value.str q296_ 529) (Value.ref 265), DictEntry.mk (PyData.keyHash P q297_) (Value.str q297_ 541) (Value.ref 272), DictEntry.mk (PyData.keyHash P q310_) (Value.str q310_ 859) (Value.ref 342), DictEntry.mk (PyData.keyHash P q311_) (Value.str q311_ 1819) (Value.ref 556), DictEntry.mk (PyData.keyHash P q312_) (Value.str q312_ 2361) (Value.ref 677)] 15) #[]
noncomputable def o677 (P : Params) : Obj := Obj.mk (Value.type PySem.W.SL.s9222952809800978799x4) none (Data.seq #[Value.ref 558, Value.ref 561, Value.ref 564, Value.ref 567, Value.ref 570, Value.ref 573, Value.ref 576, Value.ref 579, Value.ref 582, Value.ref 585, Value.ref 588, Value.ref 591, Value.ref 594, Value.ref 597, Value.ref 600, Value.ref 603, Value.ref 606, Value.ref 609, Value.ref 612, Value.ref 615, Value.ref 618, Value.ref 621, Value.ref 624, Value.ref 627, Value.ref 630, Value.ref 633, Value.ref 636, Value.ref 639, Value.ref 642, Value.ref 645, Value.ref 648, Value.ref 651, Value.ref 654, Value.ref 657, Value.ref 660, Value.ref 663, Value.ref 666, Value.ref 669, Value.ref 672, Value.ref 675]) #[]
noncomputable def o225v13 (P : Params) : Obj := Obj.mk (Value.type PySem.W.SL.s14018661285674007319x4) none (Data.dict #[DictEntry.mk (PyData.keyHash P q206_) (Value.str q206_ 468) (Value.str q284_ 459), DictEntry.mk (PyData.keyHash P q207_) (Value.str q207_ 470) (Value.str q288_ 469), DictEntry.mk (PyData.keyHash P q208_) (Value.str q208_ 472) (Value.int 155 471), DictEntry.mk (PyData.keyHash P q289_) (Value.str q289_ 489) (Value.ref 230), DictEntry.mk (PyData.keyHash P q290_) (Value.str q290_ 491) (Value.int 0 490), DictEntry.mk (PyData.keyHash P q291_) (Value.str q291_ 493) (Value.int 0 492), DictEntry.mk (PyData.keyHash P q292_) (Value.str q292_ 501) (Value.ref 237), DictEntry.mk (PyData.keyHash P q293_) (Value.str q293_ 508) (Value.ref 244), DictEntry.mk (PyData.keyHash P q294_) (Value.str q294_ 515) (Value.ref 251), DictEntry.mk (PyData.keyHash P q295_) (Value.str q295_ 522) (Value.ref 258), DictEntry.mk (PyData.keyHash P q296_) (Value.str q296_ 529) (Value.ref 265), DictEntry.mk (PyData.keyHash P q297_) (Value.str q297_ 541) (Value.ref 272), DictEntry.mk (PyData.keyHash P q310_) (Value.str q310_ 859) (Value.ref 342), DictEntry.mk (PyData.keyHash P q311_) (Value.str q311_ 1819) (Value.ref 556), DictEntry.mk (PyData.keyHash P q312_) (Value.str q312_ 2361) (Value.ref 677), DictEntry.mk (PyData.keyHash P q313_) (Value.str q313_ 3119) (Value.ref 849)] 16) #[]
noncomputable def o849 (P : Params) : Obj := Obj.mk (Value.type PySem.W.SL.s9222952809800978799x4) none (Data.seq #[Value.ref 679, Value.ref 682, Value.ref 685, Value.ref 688, Value.ref 691, Value.ref 694, Value.ref 697, Value.ref 700, Value.ref 703, Value.ref 706, Value.ref 709, Value.ref 712, Value.ref 715, Value.ref 718, Value.ref 721, Value.ref 724, Value.ref 727, Value.ref 730, Value.ref 733, Value.ref 736, Value.ref 739, Value.ref 742, Value.ref 745, Value.ref 748, Value.ref 751, Value.ref 754, Value.ref 757, Value.ref 760, Value.ref 763, Value.ref 766, Value.ref 769, Value.ref 772, Value.ref 775, Value.ref 778, Value.ref 781, Value.ref 784, Value.ref 787, Value.ref 790, Value.ref 793, Value.ref 796, Value.ref 799, Value.ref 802, Value.ref 805, Value.ref 808, Value.ref 811, Value.ref 814, Value.ref 817, Value.ref 820, Value.ref 823, Value.ref 826, Value.ref 829, Value.ref 832, Value.ref 835, Value.ref 838, Value.ref 841, Value.ref 844, Value.ref 847]) #[]
noncomputable def o3v6 (P : Params) : Obj := Obj.mk (Value.type PySem.W.SL.s14018661285674007319x4) none (Data.dict #[DictEntry.mk (PyData.keyHash P q193_) (Value.str q193_ 165) (Value.str q284_ 459), DictEntry.mk (PyData.keyHash P q195_) (Value.str q195_ 166) Value.none, DictEntry.mk (PyData.keyHash P q196_) (Value.str q196_ 167) Value.none, DictEntry.mk (PyData.keyHash P q197_) (Value.str q197_ 168) (Value.builtin PySem.W.SL.s7097527257260152453x26), DictEntry.mk (PyData.keyHash P q198_) (Value.str q198_ 169) Value.none, DictEntry.mk (PyData.keyHash P q199_) (Value.str q199_ 170) (Value.ref 6), DictEntry.mk (PyData.keyHash P q200_) (Value.str q200_ 171) (Value.ref 4), DictEntry.mk (PyData.keyHash P q201_) (Value.str q201_ 173) (Value.str q191_ 172), DictEntry.mk (PyData.keyHash P q202_) (Value.str q202_ 174) Value.none, DictEntry.mk (PyData.keyHash P q203_) (Value.str q203_ 193) (Value.ref 21), DictEntry.mk (PyData.keyHash P q204_) (Value.str q204_ 423) (Value.ref 197), DictEntry.mk (PyData.keyHash P q285_) (Value.str q285_ 458) (Value.ref 218), DictEntry.mk (PyData.keyHash P q288_) (Value.str q288_ 3129) (Value.ref 852)] 13) #[]
noncomputable def o197v1 (P : Params) : Obj := Obj.mk (Value.type PySem.W.SL.s17162191345867700912x4) none (Data.cls (ClassData.mk q204_ [Value.type PySem.W.SL.s2742458400755230247x6] [Value.ref 197, Value.type PySem.W.SL.s2742458400755230247x6] 196 q204_ Bool.true [] [Value.ref 852] Bool.false none Bool.false)) #[none, none, some (Value.str q204_ 196), some (Value.str q204_ 204), some (Value.builtin PySem.W.SL.s11443829558043349243x14), some (Value.bool Bool.true)]
noncomputable def o225v14 (P : Params) : Obj := Obj.mk (Value.type PySem.W.SL.s14018661285674007319x4) none (Data.dict #[DictEntry.mk (PyData.keyHash P q206_) (Value.str q206_ 468) (Value.str q284_ 459), DictEntry.mk (PyData.keyHash P q207_) (Value.str q207_ 470) (Value.str q288_ 469), DictEntry.mk (PyData.keyHash P q208_) (Value.str q208_ 472) (Value.int 155 471), DictEntry.mk (PyData.keyHash P q289_) (Value.str q289_ 489) (Value.ref 230), DictEntry.mk (PyData.keyHash P q290_) (Value.str q290_ 491) (Value.int 0 490), DictEntry.mk (PyData.keyHash P q291_) (Value.str q291_ 493) (Value.int 0 492), DictEntry.mk (PyData.keyHash P q292_) (Value.str q292_ 501) (Value.ref 237), DictEntry.mk (PyData.keyHash P q293_) (Value.str q293_ 508) (Value.ref 244), DictEntry.mk (PyData.keyHash P q294_) (Value.str q294_ 515) (Value.ref 251), DictEntry.mk (PyData.keyHash P q295_) (Value.str q295_ 522) (Value.ref 258), DictEntry.mk (PyData.keyHash P q296_) (Value.str q296_ 529) (Value.ref 265), DictEntry.mk (PyData.keyHash P q297_) (Value.str q297_ 541) (Value.ref 272), DictEntry.mk (PyData.keyHash P q310_) (Value.str q310_ 859) (Value.ref 342), DictEntry.mk (PyData.keyHash P q311_) (Value.str q311_ 1819) (Value.ref 556), DictEntry.mk (PyData.keyHash P q312_) (Value.str q312_ 2361) (Value.ref 677), DictEntry.mk (PyData.keyHash P q313_) (Value.str q313_ 3119) (Value.ref 849), DictEntry.mk (PyData.keyHash P q233_) (Value.str q233_ 3126) (Value.ref 850)] 17) #[]
noncomputable def o850 (P : Params) : Obj := Obj.mk (Value.type PySem.W.SL.s2766695959194262286x5) none (Data.seq #[Value.str q290_ 3120, Value.str q291_ 3121, Value.str q276_ 3122, Value.str q278_ 3123, Value.str q279_ 3124, Value.str q281_ 3125]) #[]
noncomputable def o851 (P : Params) : Obj := Obj.mk (Value.type PySem.W.SL.s14018661285674007319x4) none (Data.dict #[DictEntry.mk (PyData.keyHash P q206_) (Value.str q206_ 468) (Value.str q284_ 459), DictEntry.mk (PyData.keyHash P q208_) (Value.str q208_ 472) (Value.int 155 471), DictEntry.mk (PyData.keyHash P q289_) (Value.str q289_ 489) (Value.ref 230), DictEntry.mk (PyData.keyHash P q290_) (Value.str q290_ 491) (Value.int 0 490), DictEntry.mk (PyData.keyHash P q291_) (Value.str q291_ 493) (Value.int 0 492), DictEntry.mk (PyData.keyHash P q292_) (Value.str q292_ 501) (Value.ref 237), DictEntry.mk (PyData.keyHash P q293_) (Value.str q293_ 508) (Value.ref 244), DictEntry.mk (PyData.keyHash P q294_) (Value.str q294_ 515) (Value.ref 251), DictEntry.mk (PyData.keyHash P q295_) (Value.str q295_ 522) (Value.ref 258), DictEntry.mk (PyData.keyHash P q296_) (Value.str q296_ 529) (Value.ref 265), DictEntry.mk (PyData.keyHash P q297_) (Value.str q297_ 541) (Value.ref 272), DictEntry.mk (PyData.keyHash P q310_) (Value.str q310_ 859) (Value.ref 342), DictEntry.mk (PyData.keyHash P q311_) (Value.str q311_ 1819) (Value.ref 556), DictEntry.mk (PyData.keyHash P q312_) (Value.str q312_ 2361) (Value.ref 677), DictEntry.mk (PyData.keyHash P q313_) (Value.str q313_ 3119) (Value.ref 849), DictEntry.mk (PyData.keyHash P q233_) (Value.str q233_ 3126) (Value.ref 850), DictEntry.mk (PyData.keyHash P q195_) (Value.str q195_ 3127) Value.none] 2) #[]
noncomputable def o852 (P : Params) : Obj := Obj.mk (Value.type PySem.W.SL.s17162191345867700912x4) none (Data.cls (ClassData.mk q288_ [Value.ref 197] [Value.ref 852, Value.ref 197, Value.type PySem.W.SL.s2742458400755230247x6] 851 q288_ Bool.true [] [] Bool.false none Bool.false)) #[some (Value.ref 223), none, some (Value.str q288_ 461), some (Value.str q288_ 469), some (Value.builtin PySem.W.SL.s11443829558043349243x14), some (Value.bool Bool.true)]
noncomputable def o853 (P : Params) : Obj := Obj.mk (Value.type PySem.W.SL.s4290257624100764138x5) none (Data.fields #[Value.ref 852, Value.ref 852, Value.ref 852]) #[]
noncomputable def o854 (P : Params) : Obj := Obj.mk (Value.type PySem.W.SL.s11030030927630378310x26) none (Data.fields #[Value.builtin PySem.W.SL.s4860613602091757760x24, Value.ref 852]) #[]
noncomputable def o2 (P : Params) : Obj := Obj.mk Value.none none (Data.dict #[DictEntry.mk (PyData.keyHash P q314_) (Value.str q314_ 3146) (Value.int 864 0), DictEntry.mk (PyData.keyHash P q315_) (Value.str q315_ 3147) (Value.int 1 0)] 2) #[]
noncomputable def o3v12 (P : Params) : Obj := Obj.mk (Value.type PySem.W.SL.s14018661285674007319x4) none (Data.dict #[DictEntry.mk (PyData.keyHash P q193_) (Value.str q193_ 165) (Value.str q316_ 3150), DictEntry.mk (PyData.keyHash P q195_) (Value.str q195_ 166) Value.none, DictEntry.mk (PyData.keyHash P q196_) (Value.str q196_ 167) Value.none, DictEntry.mk (PyData.keyHash P q197_) (Value.str q197_ 168) (Value.builtin PySem.W.SL.s7097527257260152453x26), DictEntry.mk (PyData.keyHash P q198_) (Value.str q198_ 169) Value.none, DictEntry.mk (PyData.keyHash P q199_) (Value.str q199_ 170) (Value.ref 6), DictEntry.mk (PyData.keyHash P q200_) (Value.str q200_ 171) (Value.ref 4), DictEntry.mk (PyData.keyHash P q201_) (Value.str q201_ 173) (Value.str q191_ 172), DictEntry.mk (PyData.keyHash P q202_) (Value.str q202_ 174) Value.none, DictEntry.mk (PyData.keyHash P q203_) (Value.str q203_ 193) (Value.ref 21), DictEntry.mk (PyData.keyHash P q204_) (Value.str q204_ 423) (Value.ref 197), DictEntry.mk (PyData.keyHash P q285_) (Value.str q285_ 458) (Value.ref 218), DictEntry.mk (PyData.keyHash P q288_) (Value.str q288_ 3129) (Value.ref 852), DictEntry.mk (PyData.keyHash P q317_) (Value.str q317_ 3149) (Value.ref 864), DictEntry.mk (PyData.keyHash P q318_) (Value.str q318_ 3153) (Value.str q319_ 3152), DictEntry.mk (PyData.keyHash P q320_) (Value.str q320_ 3155) (Value.str q321_ 3154), DictEntry.mk (PyData.keyHash P q322_) (Value.str q322_ 3157) (Value.str q323_ 3156), DictEntry.mk (PyData.keyHash P q324_) (Value.str q324_ 3159) (Value.str q325_ 3158)] 18) #[]
noncomputable def o12v5 (P : Params) : Obj := Obj.mk Value.none none (Data.fields #[Value.int 1 0, Value.int 0 0, Value.ref 20, Value.int 5 0, Value.int 0 0, Value.ref 27, Value.int 148 0, Value.int 0 0, Value.ref 207, Value.int 155 0, Value.int 0 0, Value.ref 228, Value.int 245 0, Value.int 0 0, Value.ref 860]) #[]
noncomputable def o855 (P : Params) : Obj := Obj.mk (Value.type PySem.W.SL.s2766695959194262286x5) none (Data.seq #[Value.type PySem.W.SL.s5946037652744460706x9]) #[]
noncomputable def o856 (P : Params) : Obj := Obj.mk (Value.type PySem.W.SL.s11030030927630378310x26) none (Data.fields #[Value.builtin PySem.W.SL.s10062305145149207511x16, Value.type PySem.W.SL.s17162191345867700912x4]) #[]
noncomputable def o857 (P : Params) : Obj := Obj.mk (Value.type PySem.W.SL.s14018661285674007319x4) none (Data.dict #[DictEntry.mk (PyData.keyHash P q206_) (Value.str q206_ 3137) (Value.str q284_ 459), DictEntry.mk (PyData.keyHash P q207_) (Value.str q207_ 3139) (Value.str q317_ 3138), DictEntry.mk (PyData.keyHash P q208_) (Value.str q208_ 3141) (Value.int 245 3140), DictEntry.mk (PyData.keyHash P q233_) (Value.str q233_ 3142) (Value.ref 862)] 4) #[]
noncomputable def o858 (P : Params) : Obj := Obj.mk (Value.type PySem.W.SL.s2766695959194262286x5) none (Data.seq #[]) #[]
noncomputable def o859 (P : Params) : Obj := Obj.mk Value.none none (Data.fields #[]) #[]
noncomputable def o860 (P : Params) : Obj := Obj.mk (Value.type PySem.W.SL.s5856160107412720595x4) none (Data.fields #[Value.str q317_ 3132, Value.str q317_ 3133, Value.str q191_ 3134, Value.int 245 0, Value.int 0 0, Value.int 0 0, Value.int 0 0, Value.int 0 0, Value.ref 858, Value.bool Bool.false, Value.int 181 0, Value.ref 859, Value.none, Value.none, Value.none, Value.none, Value.int 3135 0, Value.int 245 0, Value.str q191_ 3136]) #[]
noncomputable def o861 (P : Params) : Obj := Obj.mk (Value.type PySem.W.SL.s658472552662922059x5) none Data.plain #[some (Value.ref 860), some (Value.ref 3), some (Value.ref 857), none, some (Value.str q284_ 459), none, some (Value.ref 0)]
noncomputable def o862 (P : Params) : Obj := Obj.mk (Value.type PySem.W.SL.s2766695959194262286x5) none (Data.seq #[]) #[]
noncomputable def o863 (P : Params) : Obj := Obj.mk (Value.type PySem.W.SL.s14018661285674007319x4) none (Data.dict #[DictEntry.mk (PyData.keyHash P q206_) (Value.str q206_ 3137) (Value.str q284_ 459), DictEntry.mk (PyData.keyHash P q208_) (Value.str q208_ 3141) (Value.int 245 3140), DictEntry.mk (PyData.keyHash P q233_) (Value.str q233_ 3142) (Value.ref 862), DictEntry.mk (PyData.keyHash P q283_) (Value.str q283_ 3144) (Value.ref 865), DictEntry.mk (PyData.keyHash P q195_) (Value.str q195_ 3145) Value.none] 3) #[]
noncomputable def o864 (P : Params) : Obj := Obj.mk (Value.type PySem.W.SL.s17162191345867700912x4) none (Data.cls (ClassData.mk q317_ [Value.type PySem.W.SL.s5946037652744460706x9] [Value.ref 864, Value.type PySem.W.SL.s5946037652744460706x9, Value.type PySem.W.SL.s4278001404047624695x13, Value.type PySem.W.SL.s2742458400755230247x6] 863 q317_ Bool.true [] [] Bool.false none Bool.false)) #[some (Value.ref 855), none, some (Value.str q317_ 3130), some (Value.str q317_ 3138), some (Value.builtin PySem.W.SL.s5160863994218179198x17), some (Value.bool Bool.true)]
noncomputable def o865 (P : Params) : Obj := Obj.mk (Value.type PySem.W.SL.s14755015743595814543x17) none (Data.fields #[Value.str q283_ 3143, Value.ref 864, Value.builtin PySem.W.SL.s10220274742760427390x26, Value.none]) #[]
noncomputable def o866 (P : Params) : Obj := Obj.mk (Value.type PySem.W.SL.s4290257624100764138x5) none (Data.fields #[Value.ref 864, Value.ref 864, Value.ref 864]) #[]
noncomputable def o867 (P : Params) : Obj := Obj.mk (Value.type PySem.W.SL.s11030030927630378310x26) none (Data.fields #[Value.builtin PySem.W.SL.s4860613602091757760x24, Value.ref 864]) #[]
noncomputable def o3v17 (P : Params) : Obj := Obj.mk (Value.type PySem.W.SL.s14018661285674007319x4) none (Data.dict #[DictEntry.mk (PyData.keyHash P q193_) (Value.str q193_ 165) (Value.str q316_ 3150), DictEntry.mk (PyData.keyHash P q195_) (Value.str q195_ 166) Value.none, DictEntry.mk (PyData.keyHash P q196_) (Value.str q196_ 167) Value.none, DictEntry.mk (PyData.keyHash P q197_) (Value.str q197_ 168) (Value.builtin PySem.W.SL.s7097527257260152453x26), DictEntry.mk (PyData.keyHash P q198_) (Value.str q198_ 169) Value.none, DictEntry.mk (PyData.keyHash P q199_) (Value.str q199_ 170) (Value.ref 6), DictEntry.mk (PyData.keyHash P q200_) (Value.str q200_ 171) (Value.ref 4), DictEntry.mk (PyData.keyHash P q201_) (Value.str q201_ 173) (Value.str q191_ 172), DictEntry.mk (PyData.keyHash P q202_) (Value.str q202_ 174) Value.none, DictEntry.mk (PyData.keyHash P q203_) (Value.str q203_ 193) (Value.ref 21), DictEntry.mk (PyData.keyHash P q204_) (Value.str q204_ 423) (Value.ref 197), DictEntry.mk (PyData.keyHash P q285_) (Value.str q285_ 458) (Value.ref 218), DictEntry.mk (PyData.keyHash P q288_) (Value.str q288_ 3129) (Value.ref 852), DictEntry.mk (PyData.keyHash P q317_) (Value.str q317_ 3149) (Value.ref 864), DictEntry.mk (PyData.keyHash P q318_) (Value.str q318_ 3153) (Value.str q319_ 3152), DictEntry.mk (PyData.keyHash P q320_) (Value.str q320_ 3155) (Value.str q321_ 3154), DictEntry.mk (PyData.keyHash P q322_) (Value.str q322_ 3157) (Value.str q323_ 3156), DictEntry.mk (PyData.keyHash P q324_) (Value.str q324_ 3159) (Value.str q325_ 3158), DictEntry.mk (PyData.keyHash P q326_) (Value.str q326_ 3217) (Value.ref 868), DictEntry.mk (PyData.keyHash P q327_) (Value.str q327_ 3227) (Value.ref 869), DictEntry.mk (PyData.keyHash P q328_) (Value.str q328_ 3265) (Value.ref 870), DictEntry.mk (PyData.keyHash P q329_) (Value.str q329_ 3287) (Value.ref 871), DictEntry.mk (PyData.keyHash P q330_) (Value.str q330_ 3359) (Value.ref 872)] 23) #[]
noncomputable def o868 (P : Params) : Obj := Obj.mk (Value.type PySem.W.SL.s9222952809800978799x4) none (Data.seq #[Value.str q136_ 3160, Value.str q137_ 3161, Value.str q138_ 3162, Value.str q139_ 3163, Value.str q140_ 3164, Value.str q141_ 3165, Value.str q142_ 3166, Value.str q143_ 3167, Value.str q144_ 3168, Value.str q145_ 3169, Value.str q146_ 3170, Value.str q147_ 3171, Value.str q148_ 3172, Value.str q149_ 3173, Value.str q150_ 3174, Value.str q151_ 3175, Value.str q152_ 3176, Value.str q153_ 3177, Value.str q154_ 3178, Value.str q155_ 3179, Value.str q156_ 3180, Value.str q157_ 3181, Value.str q158_ 3182, Value.str q159_ 3183, Value.str q160_ 3184, Value.str q161_ 3185, Value.str q56_ 3186, Value.str q162_ 3187, Value.str q163_ 3188, Value.str q16_ 3189, Value.str q164_ 3190, Value.str q165_ 3191, Value.str q166_ 3192, Value.str q167_ 3193, Value.str q168_ 3194, Value.str q169_ 3195, Value.str q170_ 3196, Value.str q171_ 3197, Value.str q172_ 3198, Value.str q173_ 3199, Value.str q174_ 3200, Value.str q175_ 3201, Value.str q176_ 3202, Value.str q177_ 3203, Value.str q178_ 3204, Value.str q179_ 3205, Value.str q180_ 3206, Value.str q181_ 3207, Value.str q182_ 3208, Value.str q183_ 3209, Value.str q184_ 3210, Value.str q185_ 3211, Value.str q186_ 3212, Value.str q187_ 3213, Value.str q188_ 3214, Value.str q120_ 3215, Value.str q189_ 3216]) #[]
noncomputable def o869 (P : Params) : Obj := Obj.mk (Value.type PySem.W.SL.s9222952809800978799x4) none (Data.seq #[Value.str q145_ 3218, Value.str q153_ 3219, Value.str q157_ 3220, Value.str q160_ 3221, Value.str q165_ 3222, Value.str q168_ 3223, Value.str q178_ 3224, Value.str q180_ 3225, Value.str q187_ 3226]) #[]
noncomputable def o870 (P : Params) : Obj := Obj.mk (Value.type PySem.W.SL.s9222952809800978799x4) none (Data.seq #[Value.str q331_ 3228, Value.str q98_ 3229, Value.str q99_ 3230, Value.str q100_ 3231, Value.str q101_ 3232, Value.str q102_ 3233, Value.str q103_ 3234, Value.str q104_ 3235, Value.str q105_ 3236, Value.str q106_ 3237, Value.str q107_ 3238, Value.str q56_ 3239, Value.str q110_ 3240, Value.str q111_ 3241, Value.str q112_ 3242, Value.str q113_ 3243, Value.str q114_ 3244, Value.str q115_ 3245, Value.str q116_ 3246, Value.str q118_ 3247, Value.str q119_ 3248, Value.str q120_ 3249, Value.str q121_ 3250, Value.str q122_ 3251, Value.str q123_ 3252, Value.str q124_ 3253, Value.str q125_ 3254, Value.str q126_ 3255, Value.str q127_ 3256, Value.str q128_ 3257, Value.str q129_ 3258, Value.str q130_ 3259, Value.str q131_ 3260, Value.str q132_ 3261, Value.str q133_ 3262, Value.str q134_ 3263, Value.str q135_ 3264]) #[]
noncomputable def o871 (P : Params) : Obj := Obj.mk (Value.type PySem.W.SL.s9222952809800978799x4) none (Data.seq #[Value.str q331_ 3266, Value.str q4_ 3267, Value.str q5_ 3268, Value.str q6_ 3269, Value.str q7_ 3270, Value.str q8_ 3271, Value.str q9_ 3272, Value.str q12_ 3273, Value.str q13_ 3274, Value.str q14_ 3275, Value.str q15_ 3276, Value.str q16_ 3277, Value.str q17_ 3278, Value.str q18_ 3279, Value.str q19_ 3280, Value.str q20_ 3281, Value.str q21_ 3282, Value.str q22_ 3283, Value.str q23_ 3284, Value.str q24_ 3285, Value.str q25_ 3286]) #[]
noncomputable def o872 (P : Params) : Obj := Obj.mk (Value.type PySem.W.SL.s9222952809800978799x4) none (Data.seq (Value.str q27_ 3288 :: Value.str q28_ 3289 :: Value.str q29_ 3290 :: Value.str q30_ 3291 :: Value.str q31_ 3292 :: Value.str q32_ 3293 :: Value.str q33_ 3294 :: Value.str q34_ 3295 :: Value.str q35_ 3296 :: Value.str q36_ 3297 :: Value.str q37_ 3298 :: Value.str q38_ 3299 :: Value.str q39_ 3300 :: Value.str q40_ 3301 :: Value.str q41_ 3302 :: Value.str q42_ 3303 :: Value.str q43_ 3304 :: Value.str q44_ 3305 :: Value.str q45_ 3306 :: Value.str q46_ 3307 :: Value.str q47_ 3308 :: Value.str q48_ 3309 :: Value.str q49_ 3310 :: Value.str q50_ 3311 :: Value.str q51_ 3312 :: Value.str q52_ 3313 :: Value.str q53_ 3314 :: Value.str q54_ 3315 :: Value.str q55_ 3316 :: Value.str q56_ 3317 :: Value.str q57_ 3318 :: Value.str q58_ 3319 :: Value.str q59_ 3320 :: Value.str q60_ 3321 :: Value.str q61_ 3322 :: Value.str q62_ 3323 :: Value.str q63_ 3324 :: Value.str q64_ 3325 :: Value.str q65_ 3326 :: Value.str q66_ 3327 :: Value.str q67_ 3328 :: Value.str q68_ 3329 :: Value.str q69_ 3330 :: Value.str q70_ 3331 :: Value.str q71_ 3332 :: Value.str q72_ 3333 :: Value.str q73_ 3334 :: Value.str q74_ 3335 :: Value.str q75_ 3336 :: Value.str q76_ 3337 :: Value.str q77_ 3338 :: Value.str q78_ 3339 :: Value.str q79_ 3340 :: Value.str q80_ 3341 :: Value.str q81_ 3342 :: Value.str q82_ 3343 :: Value.str q83_ 3344 :: Value.str q84_ 3345 :: Value.str q85_ 3346 :: Value.str q86_ 3347 :: Value.str q87_ 3348 :: Value.str q88_ 3349 :: Value.str q89_ 3350 :: Value.str q90_ 3351 :: Value.str q91_ 3352 :: Value.str q92_ 3353 :: Value.str q93_ 3354 :: Value.str q94_ 3355 :: Value.str q95_ 3356 :: Value.str q96_ 3357 :: Value.str q97_ 3358 :: []).toArray) #[]
noncomputable def o3v21 (P : Params) : Obj := Obj.mk (Value.type PySem.W.SL.s14018661285674007319x4) none (Data.dict #[DictEntry.mk (PyData.keyHash P q193_) (Value.str q193_ 165) (Value.str q316_ 3150), DictEntry.mk (PyData.keyHash P q195_) (Value.str q195_ 166) Value.none, DictEntry.mk (PyData.keyHash P q196_) (Value.str q196_ 167) Value.none, DictEntry.mk (PyData.keyHash P q197_) (Value.str q197_ 168) (Value.builtin PySem.W.SL.s7097527257260152453x26), DictEntry.mk (PyData.keyHash P q198_) (Value.str q198_ 169) Value.none, DictEntry.mk (PyData.keyHash P q199_) (Value.str q199_ 170) (Value.ref 6), DictEntry.mk (PyData.keyHash P q200_) (Value.str q200_ 171) (Value.ref 4), DictEntry.mk (PyData.keyHash P q201_) (Value.str q201_ 173) (Value.str q191_ 172), DictEntry.mk (PyData.keyHash P q202_) (Value.str q202_ 174) Value.none, DictEntry.mk (PyData.keyHash P q203_) (Value.str q203_ 193) (Value.ref 21), DictEntry.mk (PyData.keyHash P q204_) (Value.str q204_ 423) (Value.ref 197), DictEntry.mk (PyData.keyHash P q285_) (Value.str q285_ 458) (Value.ref 218), DictEntry.mk (PyData.keyHash P q288_) (Value.str q288_ 3129) (Value.ref 852), DictEntry.mk (PyData.keyHash P q317_) (Value.str q317_ 3149) (Value.ref 864), DictEntry.mk (PyData.keyHash P q318_) (Value.str q318_ 3153) (Value.str q319_ 3152), DictEntry.mk (PyData.keyHash P q320_) (Value.str q320_ 3155) (Value.str q321_ 3154), DictEntry.mk (PyData.keyHash P q322_) (Value.str q322_ 3157) (Value.str q323_ 3156), DictEntry.mk (PyData.keyHash P q324_) (Value.str q324_ 3159) (Value.str q325_ 3158), DictEntry.mk (PyData.keyHash P q326_) (Value.str q326_ 3217) (Value.ref 868), DictEntry.mk (PyData.keyHash P q327_) (Value.str q327_ 3227) (Value.ref 869), DictEntry.mk (PyData.keyHash P q328_) (Value.str q328_ 3265) (Value.ref 870), DictEntry.mk (PyData.keyHash P q329_) (Value.str q329_ 3287) (Value.ref 871), DictEntry.mk (PyData.keyHash P q330_) (Value.str q330_ 3359) (Value.ref 872), DictEntry.mk (PyData.keyHash P q332_) (Value.str q332_ 3367) (Value.ref 879), DictEntry.mk (PyData.keyHash P q333_) (Value.str q333_ 3375) (Value.ref 886), DictEntry.mk (PyData.keyHash P q334_) (Value.str q334_ 3383) (Value.ref 893), DictEntry.mk (PyData.keyHash P q335_) (Value.str q335_ 3389) (Value.ref 898)] 27) #[]
noncomputable def o12v9 (P : Params) : Obj := Obj.mk Value.none none (Data.fields #[Value.int 1 0, Value.int 0 0, Value.ref 20, Value.int 5 0, Value.int 0 0, Value.ref 27, Value.int 148 0, Value.int 0 0, Value.ref 207, Value.int 155 0, Value.int 0 0, Value.ref 228, Value.int 245 0, Value.int 0 0, Value.ref 860, Value.int 257 0, Value.int 0 0, Value.ref 878, Value.int 259 0, Value.int 0 0, Value.ref 885, Value.int 262 0, Value.int 0 0, Value.ref 892, Value.int 264 0, Value.int 0 0, Value.ref 897]) #[]
noncomputable def o873 (P : Params) : Obj := Obj.mk (Value.type PySem.W.SL.s2766695959194262286x5) none (Data.seq #[]) #[]
noncomputable def o874 (P : Params) : Obj := Obj.mk Value.none none (Data.fields #[]) #[]
noncomputable def o875 (P : Params) : Obj := Obj.mk (Value.type PySem.W.SL.s2766695959194262286x5) none (Data.seq #[Value.str q336_ 3363, Value.str q337_ 3364]) #[]
noncomputable def o876 (P : Params) : Obj := Obj.mk (Value.type PySem.W.SL.s2766695959194262286x5) none (Data.seq #[]) #[]
noncomputable def o877 (P : Params) : Obj := ⟨Value.none, none, .func (mkF0 q332_ q332_ (fnT 18) (Value.none) (Value.none) (Value.none) (Value.none) (none) (Value.none) (Value.none)), #[]⟩
noncomputable def o878 (P : Params) : Obj := Obj.mk (Value.type PySem.W.SL.s5856160107412720595x4) none (Data.fields #[Value.str q332_ 3360, Value.str q332_ 3361, Value.str q191_ 3362, Value.int 257 0, Value.int 2 0, Value.int 0 0, Value.int 0 0, Value.int 3 0, Value.ref 873, Value.bool Bool.true, Value.int 181 0, Value.ref 874, Value.none, Value.ref 875, Value.ref 876, Value.ref 877, Value.int 3365 0, Value.int 257 0, Value.str q191_ 3366]) #[]
noncomputable def o879 (P : Params) : Obj := ⟨Value.type PySem.W.SL.s7174869446012820540x8, none, .func (mkF q332_ q332_ (fnT 18) (Value.none) (Value.none) (Value.none) (Value.str q316_ 3150) (none) (Value.ref 878) (Value.none)), #[]⟩
noncomputable def o880 (P : Params) : Obj := Obj.mk (Value.type PySem.W.SL.s2766695959194262286x5) none (Data.seq #[]) #[]
noncomputable def o881 (P : Params) : Obj := Obj.mk Value.none none (Data.fields #[]) #[]
noncomputable def o882 (P : Params) : Obj := Obj.mk (Value.type PySem.W.SL.s2766695959194262286x5) none (Data.seq #[Value.str q338_ 3371, Value.str q205_ 3372]) #[]
noncomputable def o883 (P : Params) : Obj := Obj.mk (Value.type PySem.W.SL.s2766695959194262286x5) none (Data.seq #[]) #[]
noncomputable def o884 (P : Params) : Obj := ⟨Value.none, none, .func (mkF0 q333_ q333_ (fnT 19) (Value.none) (Value.none) (Value.none) (Value.none) (none) (Value.none) (Value.none)), #[]⟩
noncomputable def o885 (P : Params) : Obj := Obj.mk (Value.type PySem.W.SL.s5856160107412720595x4) none (Data.fields #[Value.str q333_ 3368, Value.str q333_ 3369, Value.str q191_ 3370, Value.int 259 0, Value.int 1 0, Value.int 0 0, Value.int 0 0, Value.int 3 0, Value.ref 880, Value.bool Bool.true, Value.int 181 0, Value.ref 881, Value.none, Value.ref 882, Value.ref 883, Value.ref 884, Value.int 3373 0, Value.int 259 0, Value.str q191_ 3374]) #[]
noncomputable def o886 (P : Params) : Obj := ⟨Value.type PySem.W.SL.s7174869446012820540x8, none, .func (mkF q333_ q333_ (fnT 19) (Value.none) (Value.none) (Value.none) (Value.str q316_ 3150) (none) (Value.ref 885) (Value.none)), #[]⟩
noncomputable def o887 (P : Params) : Obj := Obj.mk (Value.type PySem.W.SL.s2766695959194262286x5) none (Data.seq #[]) #[]
noncomputable def o888 (P : Params) : Obj := Obj.mk Value.none none (Data.fields #[]) #[]
noncomputable def o889 (P : Params) : Obj := Obj.mk (Value.type PySem.W.SL.s2766695959194262286x5) none (Data.seq #[Value.str q339_ 3379, Value.str q338_ 3380]) #[]
noncomputable def o890 (P : Params) : Obj := Obj.mk (Value.type PySem.W.SL.s2766695959194262286x5) none (Data.seq #[]) #[]
noncomputable def o891 (P : Params) : Obj := ⟨Value.none, none, .func (mkF0 q334_ q334_ (fnT 20) (Value.none) (Value.none) (Value.none) (Value.none) (none) (Value.none) (Value.none)), #[]⟩
noncomputable def o892 (P : Params) : Obj := Obj.mk (Value.type PySem.W.SL.s5856160107412720595x4) none (Data.fields #[Value.str q334_ 3376, Value.str q334_ 3377, Value.str q191_ 3378, Value.int 262 0, Value.int 2 0, Value.int 0 0, Value.int 0 0, Value.int 3 0, Value.ref 887, Value.bool Bool.true, Value.int 181 0, Value.ref 888, Value.none, Value.ref 889, Value.ref 890, Value.ref 891, Value.int 3381 0, Value.int 262 0, Value.str q191_ 3382]) #[]
noncomputable def o893 (P : Params) : Obj := ⟨Value.type PySem.W.SL.s7174869446012820540x8, none, .func (mkF q334_ q334_ (fnT 20) (Value.none) (Value.none) (Value.none) (Value.str q316_ 3150) (none) (Value.ref 892) (Value.none)), #[]⟩
noncomputable def o894 (P : Params) : Obj := Obj.mk (Value.type PySem.W.SL.s2766695959194262286x5) none (Data.seq #[]) #[]
noncomputable def o895 (P : Params) : Obj := Obj.mk Value.none none (Data.fields #[]) #[]
noncomputable def o896 (P : Params) : Obj := ⟨Value.none, none, .func (mkF0 q335_ q335_ (fnT 21) (Value.none) (Value.none) (Value.none) (Value.none) (none) (Value.none) (Value.none)), #[]⟩
noncomputable def o897 (P : Params) : Obj := Obj.mk (Value.type PySem.W.SL.s5856160107412720595x4) none (Data.fields #[Value.str q335_ 3384, Value.str q335_ 3385, Value.str q191_ 3386, Value.int 264 0, Value.int 1 0, Value.int 0 0, Value.int 0 0, Value.int 3 0, Value.ref 894, Value.bool Bool.true, Value.int 181 0, Value.ref 895, Value.none, Value.none, Value.none, Value.ref 896, Value.int 3387 0, Value.int 264 0, Value.str q191_ 3388]) #[]
noncomputable def o898 (P : Params) : Obj := ⟨Value.type PySem.W.SL.s7174869446012820540x8, none, .func (mkF q335_ q335_ (fnT 21) (Value.none) (Value.none) (Value.none) (Value.str q316_ 3150) (none) (Value.ref 897) (Value.none)), #[]⟩
noncomputable def TB (P : Params) : BT := (.node (boot_o_0 P) (.node (boot_o_1 P) (.node (boot_o_3 P) (.node (boot_o_7 P) .nil .nil) (.node (o11 P) .nil .nil)) (.node (boot_o_5 P) (.node (boot_o_9 P) .nil .nil) (.node (o13 P) .nil .nil))) (.node (boot_o_2 P) (.node (boot_o_4 P) (.node (boot_o_8 P) .nil .nil) (.node (o12 P) .nil .nil)) (.node (boot_o_6 P) (.node (boot_o_10 P) .nil .nil) (.node (o14 P) .nil .nil))))
noncomputable def SB (w : World) (os : OsState) : SharedT := ⟨TB w.params, 15, {}, #[], boot_drawn, 187, os⟩
noncomputable def TC2 (P : Params) : BT := (.node (boot_o_0 P) (.node (boot_o_1 P) (.node (o3v2 P) (.node (boot_o_7 P) (.node (o15 P) (.node (o31 P) (.node (o63 P) (.node (o127 P) .nil .nil) (.node (o191 P) .nil .nil)) (.node (o95 P) (.node (o159 P) .nil .nil) .nil)) (.node (o47 P) (.node (o79 P) (.node (o143 P) .nil .nil) .nil) (.node (o111 P) (.node (o175 P) .nil .nil) .nil))) (.node (o23 P) (.node (o39 P) (.node (o71 P) (.node (o135 P) .nil .nil) (.node (o199 P) .nil .nil)) (.node (o103 P) (.node (o167 P) .nil .nil) .nil)) (.node (o55 P) (.node (o87 P) (.node (o151 P) .nil .nil) .nil) (.node (o119 P) (.node (o183 P) .nil .nil) .nil)))) (.node (o11 P) (.node (o19 P) (.node (o35 P) (.node (o67 P) (.node (o131 P) .nil .nil) (.node (o195 P) .nil .nil)) (.node (o99 P) (.node (o163 P) .nil .nil) .nil)) (.node (o51 P) (.node (o83 P) (.node (o147 P) .nil .nil) .nil) (.node (o115 P) (.node (o179 P) .nil .nil) .nil))) (.node (o27 P) (.node (o43 P) (.node (o75 P) (.node (o139 P) .nil .nil) .nil) (.node (o107 P) (.node (o171 P) .nil .nil) .nil)) (.node (o59 P) (.node (o91 P) (.node (o155 P) .nil .nil) .nil) (.node (o123 P) (.node (o187 P) .nil .nil) .nil))))) (.node (boot_o_5 P) (.node (boot_o_9 P) (.node (o17 P) (.node (o33 P) (.node (o65 P) (.node (o129 P) .nil .nil) (.node (o193 P) .nil .nil)) (.node (o97 P) (.node (o161 P) .nil .nil) .nil)) (.node (o49 P) (.node (o81 P) (.node (o145 P) .nil .nil) .nil) (.node (o113 P) (.node (o177 P) .nil .nil) .nil))) (.node (o25 P) (.node (o41 P) (.node (o73 P) (.node (o137 P) .nil .nil) (.node (o201 P) .nil .nil)) (.node (o105 P) (.node (o169 P) .nil .nil) .nil)) (.node (o57 P) (.node (o89 P) (.node (o153 P) .nil .nil) .nil) (.node (o121 P) (.node (o185 P) .nil .nil) .nil)))) (.node (o13 P) (.node (o21 P) (.node (o37 P) (.node (o69 P) (.node (o133 P) .nil .nil) (.node (o197 P) .nil .nil)) (.node (o101 P) (.node (o165 P) .nil .nil) .nil)) (.node (o53 P) (.node (o85 P) (.node (o149 P) .nil .nil) .nil) (.node (o117 P) (.node (o181 P) .nil .nil) .nil))) (.node (o29 P) (.node (o45 P) (.node (o77 P) (.node (o141 P) .nil .nil) .nil) (.node (o109 P) (.node (o173 P) .nil .nil) .nil)) (.node (o61 P) (.node (o93 P) (.node (o157 P) .nil .nil) .nil) (.node (o125 P) (.node (o189 P) .nil .nil) .nil)))))) (.node (boot_o_2 P) (.node (boot_o_4 P) (.node (boot_o_8 P) (.node (o16 P) (.node (o32 P) (.node (o64 P) (.node (o128 P) .nil .nil) (.node (o192 P) .nil .nil)) (.node (o96 P) (.node (o160 P) .nil .nil) .nil)) (.node (o48 P) (.node (o80 P) (.node (o144 P) .nil .nil) .nil) (.node (o112 P) (.node (o176 P) .nil .nil) .nil))) (.node (o24 P) (.node (o40 P) (.node (o72 P) (.node (o136 P) .nil .nil) (.node (o200 P) .nil .nil)) (.node (o104 P) (.node (o168 P) .nil .nil) .nil)) (.node (o56 P) (.node (o88 P) (.node (o152 P) .nil .nil) .nil) (.node (o120 P) (.node (o184 P) .nil .nil) .nil)))) (.node (o12v2 P) (.node (o20 P) (.node (o36 P) (.node (o68 P) (.node (o132 P) .nil .nil) (.node (o196 P) .nil .nil)) (.node (o100 P) (.node (o164 P) .nil .nil) .nil)) (.node (o52 P) (.node (o84 P) (.node (o148 P) .nil .nil) .nil) (.node (o116 P) (.node (o180 P) .nil .nil) .nil))) (.node (o28 P) (.node (o44 P) (.node (o76 P) (.node (o140 P) .nil .nil) .nil) (.node (o108 P) (.node (o172 P) .nil .nil) .nil)) (.node (o60 P) (.node (o92 P) (.node (o156 P) .nil .nil) .nil) (.node (o124 P) (.node (o188 P) .nil .nil) .nil))))) (.node (boot_o_6 P) (.node (boot_o_10 P) (.node (o18 P) (.node (o34 P) (.node (o66 P) (.node (o130 P) .nil .nil) (.node (o194 P) .nil .nil)) (.node (o98 P) (.node (o162 P) .nil .nil) .nil)) (.node (o50 P) (.node (o82 P) (.node (o146 P) .nil .nil) .nil) (.node (o114 P) (.node (o178 P) .nil .nil) .nil))) (.node (o26 P) (.node (o42 P) (.node (o74 P) (.node (o138 P) .nil .nil) .nil) (.node (o106 P) (.node (o170 P) .nil .nil) .nil)) (.node (o58 P) (.node (o90 P) (.node (o154 P) .nil .nil) .nil) (.node (o122 P) (.node (o186 P) .nil .nil) .nil)))) (.node (o14 P) (.node (o22 P) (.node (o38 P) (.node (o70 P) (.node (o134 P) .nil .nil) (.node (o198 P) .nil .nil)) (.node (o102 P) (.node (o166 P) .nil .nil) .nil)) (.node (o54 P) (.node (o86 P) (.node (o150 P) .nil .nil) .nil) (.node (o118 P) (.node (o182 P) .nil .nil) .nil))) (.node (o30 P) (.node (o46 P) (.node (o78 P) (.node (o142 P) .nil .nil) .nil) (.node (o110 P) (.node (o174 P) .nil .nil) .nil)) (.node (o62 P) (.node (o94 P) (.node (o158 P) .nil .nil) .nil) (.node (o126 P) (.node (o190 P) .nil .nil) .nil)))))))
noncomputable def SC2 (w : World) (os : OsState) : SharedT := ⟨TC2 w.params, 202, {}, #[], boot_drawn, 424, os⟩
noncomputable def TC5 (P : Params) : BT := (.node (boot_o_0 P) (.node (boot_o_1 P) (.node (o3v5 P) (.node (boot_o_7 P) (.node (o15 P) (.node (o31 P) (.node (o63 P) (.node (o127 P) .nil .nil) (.node (o191 P) .nil .nil)) (.node (o95 P) (.node (o159 P) .nil .nil) .nil)) (.node (o47 P) (.node (o79 P) (.node (o143 P) .nil .nil) (.node (o207 P) .nil .nil)) (.node (o111 P) (.node (o175 P) .nil .nil) .nil))) (.node (o23 P) (.node (o39 P) (.node (o71 P) (.node (o135 P) .nil .nil) (.node (o199 P) .nil .nil)) (.node (o103 P) (.node (o167 P) .nil .nil) .nil)) (.node (o55 P) (.node (o87 P) (.node (o151 P) .nil .nil) (.node (o215 P) .nil .nil)) (.node (o119 P) (.node (o183 P) .nil .nil) .nil)))) (.node (o11 P) (.node (o19 P) (.node (o35 P) (.node (o67 P) (.node (o131 P) .nil .nil) (.node (o195 P) .nil .nil)) (.node (o99 P) (.node (o163 P) .nil .nil) .nil)) (.node (o51 P) (.node (o83 P) (.node (o147 P) .nil .nil) (.node (o211 P) .nil .nil)) (.node (o115 P) (.node (o179 P) .nil .nil) .nil))) (.node (o27 P) (.node (o43 P) (.node (o75 P) (.node (o139 P) .nil .nil) (.node (o203 P) .nil .nil)) (.node (o107 P) (.node (o171 P) .nil .nil) .nil)) (.node (o59 P) (.node (o91 P) (.node (o155 P) .nil .nil) (.node (o219 P) .nil .nil)) (.node (o123 P) (.node (o187 P) .nil .nil) .nil))))) (.node (boot_o_5 P) (.node (boot_o_9 P) (.node (o17 P) (.node (o33 P) (.node (o65 P) (.node (o129 P) .nil .nil) (.node (o193 P) .nil .nil)) (.node (o97 P) (.node (o161 P) .nil .nil) .nil)) (.node (o49 P) (.node (o81 P) (.node (o145 P) .nil .nil) (.node (o209 P) .nil .nil)) (.node (o113 P) (.node (o177 P) .nil .nil) .nil))) (.node (o25 P) (.node (o41 P) (.node (o73 P) (.node (o137 P) .nil .nil) (.node (o201 P) .nil .nil)) (.node (o105 P) (.node (o169 P) .nil .nil) .nil)) (.node (o57 P) (.node (o89 P) (.node (o153 P) .nil .nil) (.node (o217 P) .nil .nil)) (.node (o121 P) (.node (o185 P) .nil .nil) .nil)))) (.node (o13 P) (.node (o21 P) (.node (o37 P) (.node (o69 P) (.node (o133 P) .nil .nil) (.node (o197 P) .nil .nil)) (.node (o101 P) (.node (o165 P) .nil .nil) .nil)) (.node (o53 P) (.node (o85 P) (.node (o149 P) .nil .nil) (.node (o213 P) .nil .nil)) (.node (o117 P) (.node (o181 P) .nil .nil) .nil))) (.node (o29 P) (.node (o45 P) (.node (o77 P) (.node (o141 P) .nil .nil) (.node (o205 P) .nil .nil)) (.node (o109 P) (.node (o173 P) .nil .nil) .nil)) (.node (o61 P) (.node (o93 P) (.node (o157 P) .nil .nil) (.node (o221 P) .nil .nil)) (.node (o125 P) (.node (o189 P) .nil .nil) .nil)))))) (.node (boot_o_2 P) (.node (boot_o_4 P) (.node (boot_o_8 P) (.node (o16 P) (.node (o32 P) (.node (o64 P) (.node (o128 P) .nil .nil) (.node (o192 P) .nil .nil)) (.node (o96 P) (.node (o160 P) .nil .nil) .nil)) (.node (o48 P) (.node (o80 P) (.node (o144 P) .nil .nil) (.node (o208 P) .nil .nil)) (.node (o112 P) (.node (o176 P) .nil .nil) .nil))) (.node (o24 P) (.node (o40 P) (.node (o72 P) (.node (o136 P) .nil .nil) (.node (o200 P) .nil .nil)) (.node (o104 P) (.node (o168 P) .nil .nil) .nil)) (.node (o56 P) (.node (o88 P) (.node (o152 P) .nil .nil) (.node (o216 P) .nil .nil)) (.node (o120 P) (.node (o184 P) .nil .nil) .nil)))) (.node (o12v3 P) (.node (o20 P) (.node (o36 P) (.node (o68 P) (.node (o132 P) .nil .nil) (.node (o196 P) .nil .nil)) (.node (o100 P) (.node (o164 P) .nil .nil) .nil)) (.node (o52 P) (.node (o84 P) (.node (o148 P) .nil .nil) (.node (o212 P) .nil .nil)) (.node (o116 P) (.node (o180 P) .nil .nil) .nil))) (.node (o28 P) (.node (o44 P) (.node (o76 P) (.node (o140 P) .nil .nil) (.node (o204 P) .nil .nil)) (.node (o108 P) (.node (o172 P) .nil .nil) .nil)) (.node (o60 P) (.node (o92 P) (.node (o156 P) .nil .nil) (.node (o220 P) .nil .nil)) (.node (o124 P) (.node (o188 P) .nil .nil) .nil))))) (.node (boot_o_6 P) (.node (boot_o_10 P) (.node (o18 P) (.node (o34 P) (.node (o66 P) (.node (o130 P) .nil .nil) (.node (o194 P) .nil .nil)) (.node (o98 P) (.node (o162 P) .nil .nil) .nil)) (.node (o50 P) (.node (o82 P) (.node (o146 P) .nil .nil) (.node (o210 P) .nil .nil)) (.node (o114 P) (.node (o178 P) .nil .nil) .nil))) (.node (o26 P) (.node (o42 P) (.node (o74 P) (.node (o138 P) .nil .nil) (.node (o202 P) .nil .nil)) (.node (o106 P) (.node (o170 P) .nil .nil) .nil)) (.node (o58 P) (.node (o90 P) (.node (o154 P) .nil .nil) (.node (o218 P) .nil .nil)) (.node (o122 P) (.node (o186 P) .nil .nil) .nil)))) (.node (o14 P) (.node (o22 P) (.node (o38 P) (.node (o70 P) (.node (o134 P) .nil .nil) (.node (o198 P) .nil .nil)) (.node (o102 P) (.node (o166 P) .nil .nil) .nil)) (.node (o54 P) (.node (o86 P) (.node (o150 P) .nil .nil) (.node (o214 P) .nil .nil)) (.node (o118 P) (.node (o182 P) .nil .nil) .nil))) (.node (o30 P) (.node (o46 P) (.node (o78 P) (.node (o142 P) .nil .nil) (.node (o206 P) .nil .nil)) (.node (o110 P) (.node (o174 P) .nil .nil) .nil)) (.node (o62 P) (.node (o94 P) (.node (o158 P) .nil .nil) (.node (o222 P) .nil .nil)) (.node (o126 P) (.node (o190 P) .nil .nil) .nil)))))))
noncomputable def SC5 (w : World) (os : OsState) : SharedT := ⟨TC5 w.params, 223, {}, #[], boot_drawn, 461, os⟩
noncomputable def TD (P : Params) : BT := (.node (boot_o_0 P) (.node (boot_o_1 P) (.node (o3v5 P) (.node (boot_o_7 P) (.node (o15 P) (.node (o31 P) (.node (o63 P) (.node (o127 P) .nil .nil) (.node (o191 P) .nil .nil)) (.node (o95 P) (.node (o159 P) .nil .nil) (.node (o223 P) .nil .nil))) (.node (o47 P) (.node (o79 P) (.node (o143 P) .nil .nil) (.node (o207 P) .nil .nil)) (.node (o111 P) (.node (o175 P) .nil .nil) .nil))) (.node (o23 P) (.node (o39 P) (.node (o71 P) (.node (o135 P) .nil .nil) (.node (o199 P) .nil .nil)) (.node (o103 P) (.node (o167 P) .nil .nil) .nil)) (.node (o55 P) (.node (o87 P) (.node (o151 P) .nil .nil) (.node (o215 P) .nil .nil)) (.node (o119 P) (.node (o183 P) .nil .nil) .nil)))) (.node (o11 P) (.node (o19 P) (.node (o35 P) (.node (o67 P) (.node (o131 P) .nil .nil) (.node (o195 P) .nil .nil)) (.node (o99 P) (.node (o163 P) .nil .nil) (.node (o227 P) .nil .nil))) (.node (o51 P) (.node (o83 P) (.node (o147 P) .nil .nil) (.node (o211 P) .nil .nil)) (.node (o115 P) (.node (o179 P) .nil .nil) .nil))) (.node (o27 P) (.node (o43 P) (.node (o75 P) (.node (o139 P) .nil .nil) (.node (o203 P) .nil .nil)) (.node (o107 P) (.node (o171 P) .nil .nil) .nil)) (.node (o59 P) (.node (o91 P) (.node (o155 P) .nil .nil) (.node (o219 P) .nil .nil)) (.node (o123 P) (.node (o187 P) .nil .nil) .nil))))) (.node (boot_o_5 P) (.node (boot_o_9 P) (.node (o17 P) (.node (o33 P) (.node (o65 P) (.node (o129 P) .nil .nil) (.node (o193 P) .nil .nil)) (.node (o97 P) (.node (o161 P) .nil .nil) (.node (o225 P) .nil .nil))) (.node (o49 P) (.node (o81 P) (.node (o145 P) .nil .nil) (.node (o209 P) .nil .nil)) (.node (o113 P) (.node (o177 P) .nil .nil) .nil))) (.node (o25 P) (.node (o41 P) (.node (o73 P) (.node (o137 P) .nil .nil) (.node (o201 P) .nil .nil)) (.node (o105 P) (.node (o169 P) .nil .nil) .nil)) (.node (o57 P) (.node (o89 P) (.node (o153 P) .nil .nil) (.node (o217 P) .nil .nil)) (.node (o121 P) (.node (o185 P) .nil .nil) .nil)))) (.node (o13 P) (.node (o21 P) (.node (o37 P) (.node (o69 P) (.node (o133 P) .nil .nil) (.node (o197 P) .nil .nil)) (.node (o101 P) (.node (o165 P) .nil .nil) (.node (o229 P) .nil .nil))) (.node (o53 P) (.node (o85 P) (.node (o149 P) .nil .nil) (.node (o213 P) .nil .nil)) (.node (o117 P) (.node (o181 P) .nil .nil) .nil))) (.node (o29 P) (.node (o45 P) (.node (o77 P) (.node (o141 P) .nil .nil) (.node (o205 P) .nil .nil)) (.node (o109 P) (.node (o173 P) .nil .nil) .nil)) (.node (o61 P) (.node (o93 P) (.node (o157 P) .nil .nil) (.node (o221 P) .nil .nil)) (.node (o125 P) (.node (o189 P) .nil .nil) .nil)))))) (.node (boot_o_2 P) (.node (boot_o_4 P) (.node (boot_o_8 P) (.node (o16 P) (.node (o32 P) (.node (o64 P) (.node (o128 P) .nil .nil) (.node (o192 P) .nil .nil)) (.node (o96 P) (.node (o160 P) .nil .nil) (.node (o224 P) .nil .nil))) (.node (o48 P) (.node (o80 P) (.node (o144 P) .nil .nil) (.node (o208 P) .nil .nil)) (.node (o112 P) (.node (o176 P) .nil .nil) .nil))) (.node (o24 P) (.node (o40 P) (.node (o72 P) (.node (o136 P) .nil .nil) (.node (o200 P) .nil .nil)) (.node (o104 P) (.node (o168 P) .nil .nil) .nil)) (.node (o56 P) (.node (o88 P) (.node (o152 P) .nil .nil) (.node (o216 P) .nil .nil)) (.node (o120 P) (.node (o184 P) .nil .nil) .nil)))) (.node (o12v4 P) (.node (o20 P) (.node (o36 P) (.node (o68 P) (.node (o132 P) .nil .nil) (.node (o196 P) .nil .nil)) (.node (o100 P) (.node (o164 P) .nil .nil) (.node (o228 P) .nil .nil))) (.node (o52 P) (.node (o84 P) (.node (o148 P) .nil .nil) (.node (o212 P) .nil .nil)) (.node (o116 P) (.node (o180 P) .nil .nil) .nil))) (.node (o28 P) (.node (o44 P) (.node (o76 P) (.node (o140 P) .nil .nil) (.node (o204 P) .nil .nil)) (.node (o108 P) (.node (o172 P) .nil .nil) .nil)) (.node (o60 P) (.node (o92 P) (.node (o156 P) .nil .nil) (.node (o220 P) .nil .nil)) (.node (o124 P) (.node (o188 P) .nil .nil) .nil))))) (.node (boot_o_6 P) (.node (boot_o_10 P) (.node (o18 P) (.node (o34 P) (.node (o66 P) (.node (o130 P) .nil .nil) (.node (o194 P) .nil .nil)) (.node (o98 P) (.node (o162 P) .nil .nil) (.node (o226 P) .nil .nil))) (.node (o50 P) (.node (o82 P) (.node (o146 P) .nil .nil) (.node (o210 P) .nil .nil)) (.node (o114 P) (.node (o178 P) .nil .nil) .nil))) (.node (o26 P) (.node (o42 P) (.node (o74 P) (.node (o138 P) .nil .nil) (.node (o202 P) .nil .nil)) (.node (o106 P) (.node (o170 P) .nil .nil) .nil)) (.node (o58 P) (.node (o90 P) (.node (o154 P) .nil .nil) (.node (o218 P) .nil .nil)) (.node (o122 P) (.node (o186 P) .nil .nil) .nil)))) (.node (o14 P) (.node (o22 P) (.node (o38 P) (.node (o70 P) (.node (o134 P) .nil .nil) (.node (o198 P) .nil .nil)) (.node (o102 P) (.node (o166 P) .nil .nil) .nil)) (.node (o54 P) (.node (o86 P) (.node (o150 P) .nil .nil) (.node (o214 P) .nil .nil)) (.node (o118 P) (.node (o182 P) .nil .nil) .nil))) (.node (o30 P) (.node (o46 P) (.node (o78 P) (.node (o142 P) .nil .nil) (.node (o206 P) .nil .nil)) (.node (o110 P) (.node (o174 P) .nil .nil) .nil)) (.node (o62 P) (.node (o94 P) (.node (o158 P) .nil .nil) (.node (o222 P) .nil .nil)) (.node (o126 P) (.node (o190 P) .nil .nil) .nil)))))))
noncomputable def SD (w : World) (os : OsState) : SharedT := ⟨TD w.params, 230, {}, #[], boot_drawn, 473, os⟩
noncomputable def TE0 (P : Params) : BT := (.node (boot_o_0 P) (.node (boot_o_1 P) (.node (o3v5 P) (.node (boot_o_7 P) (.node (o15 P) (.node (o31 P) (.node (o63 P) (.node (o127 P) .nil .nil) (.node (o191 P) .nil .nil)) (.node (o95 P) (.node (o159 P) .nil .nil) (.node (o223 P) .nil .nil))) (.node (o47 P) (.node (o79 P) (.node (o143 P) .nil .nil) (.node (o207 P) .nil .nil)) (.node (o111 P) (.node (o175 P) .nil .nil) .nil))) (.node (o23 P) (.node (o39 P) (.node (o71 P) (.node (o135 P) .nil .nil) (.node (o199 P) .nil .nil)) (.node (o103 P) (.node (o167 P) .nil .nil) .nil)) (.node (o55 P) (.node (o87 P) (.node (o151 P) .nil .nil) (.node (o215 P) .nil .nil)) (.node (o119 P) (.node (o183 P) .nil .nil) .nil)))) (.node (o11 P) (.node (o19 P) (.node (o35 P) (.node (o67 P) (.node (o131 P) .nil .nil) (.node (o195 P) .nil .nil)) (.node (o99 P) (.node (o163 P) .nil .nil) (.node (o227 P) .nil .nil))) (.node (o51 P) (.node (o83 P) (.node (o147 P) .nil .nil) (.node (o211 P) .nil .nil)) (.node (o115 P) (.node (o179 P) .nil .nil) .nil))) (.node (o27 P) (.node (o43 P) (.node (o75 P) (.node (o139 P) .nil .nil) (.node (o203 P) .nil .nil)) (.node (o107 P) (.node (o171 P) .nil .nil) .nil)) (.node (o59 P) (.node (o91 P) (.node (o155 P) .nil .nil) (.node (o219 P) .nil .nil)) (.node (o123 P) (.node (o187 P) .nil .nil) .nil))))) (.node (boot_o_5 P) (.node (boot_o_9 P) (.node (o17 P) (.node (o33 P) (.node (o65 P) (.node (o129 P) .nil .nil) (.node (o193 P) .nil .nil)) (.node (o97 P) (.node (o161 P) .nil .nil) (.node (o225v1 P) .nil .nil))) (.node (o49 P) (.node (o81 P) (.node (o145 P) .nil .nil) (.node (o209 P) .nil .nil)) (.node (o113 P) (.node (o177 P) .nil .nil) .nil))) (.node (o25 P) (.node (o41 P) (.node (o73 P) (.node (o137 P) .nil .nil) (.node (o201 P) .nil .nil)) (.node (o105 P) (.node (o169 P) .nil .nil) .nil)) (.node (o57 P) (.node (o89 P) (.node (o153 P) .nil .nil) (.node (o217 P) .nil .nil)) (.node (o121 P) (.node (o185 P) .nil .nil) .nil)))) (.node (o13 P) (.node (o21 P) (.node (o37 P) (.node (o69 P) (.node (o133 P) .nil .nil) (.node (o197 P) .nil .nil)) (.node (o101 P) (.node (o165 P) .nil .nil) (.node (o229 P) .nil .nil))) (.node (o53 P) (.node (o85 P) (.node (o149 P) .nil .nil) (.node (o213 P) .nil .nil)) (.node (o117 P) (.node (o181 P) .nil .nil) .nil))) (.node (o29 P) (.node (o45 P) (.node (o77 P) (.node (o141 P) .nil .nil) (.node (o205 P) .nil .nil)) (.node (o109 P) (.node (o173 P) .nil .nil) .nil)) (.node (o61 P) (.node (o93 P) (.node (o157 P) .nil .nil) (.node (o221 P) .nil .nil)) (.node (o125 P) (.node (o189 P) .nil .nil) .nil)))))) (.node (boot_o_2 P) (.node (boot_o_4 P) (.node (boot_o_8 P) (.node (o16 P) (.node (o32 P) (.node (o64 P) (.node (o128 P) .nil .nil) (.node (o192 P) .nil .nil)) (.node (o96 P) (.node (o160 P) .nil .nil) (.node (o224 P) .nil .nil))) (.node (o48 P) (.node (o80 P) (.node (o144 P) .nil .nil) (.node (o208 P) .nil .nil)) (.node (o112 P) (.node (o176 P) .nil .nil) .nil))) (.node (o24 P) (.node (o40 P) (.node (o72 P) (.node (o136 P) .nil .nil) (.node (o200 P) .nil .nil)) (.node (o104 P) (.node (o168 P) .nil .nil) .nil)) (.node (o56 P) (.node (o88 P) (.node (o152 P) .nil .nil) (.node (o216 P) .nil .nil)) (.node (o120 P) (.node (o184 P) .nil .nil) .nil)))) (.node (o12v4 P) (.node (o20 P) (.node (o36 P) (.node (o68 P) (.node (o132 P) .nil .nil) (.node (o196 P) .nil .nil)) (.node (o100 P) (.node (o164 P) .nil .nil) (.node (o228 P) .nil .nil))) (.node (o52 P) (.node (o84 P) (.node (o148 P) .nil .nil) (.node (o212 P) .nil .nil)) (.node (o116 P) (.node (o180 P) .nil .nil) .nil))) (.node (o28 P) (.node (o44 P) (.node (o76 P) (.node (o140 P) .nil .nil) (.node (o204 P) .nil .nil)) (.node (o108 P) (.node (o172 P) .nil .nil) .nil)) (.node (o60 P) (.node (o92 P) (.node (o156 P) .nil .nil) (.node (o220 P) .nil .nil)) (.node (o124 P) (.node (o188 P) .nil .nil) .nil))))) (.node (boot_o_6 P) (.node (boot_o_10 P) (.node (o18 P) (.node (o34 P) (.node (o66 P) (.node (o130 P) .nil .nil) (.node (o194 P) .nil .nil)) (.node (o98 P) (.node (o162 P) .nil .nil) (.node (o226 P) .nil .nil))) (.node (o50 P) (.node (o82 P) (.node (o146 P) .nil .nil) (.node (o210 P) .nil .nil)) (.node (o114 P) (.node (o178 P) .nil .nil) .nil))) (.node (o26 P) (.node (o42 P) (.node (o74 P) (.node (o138 P) .nil .nil) (.node (o202 P) .nil .nil)) (.node (o106 P) (.node (o170 P) .nil .nil) .nil)) (.node (o58 P) (.node (o90 P) (.node (o154 P) .nil .nil) (.node (o218 P) .nil .nil)) (.node (o122 P) (.node (o186 P) .nil .nil) .nil)))) (.node (o14 P) (.node (o22 P) (.node (o38 P) (.node (o70 P) (.node (o134 P) .nil .nil) (.node (o198 P) .nil .nil)) (.node (o102 P) (.node (o166 P) .nil .nil) (.node (oSet P) .nil .nil))) (.node (o54 P) (.node (o86 P) (.node (o150 P) .nil .nil) (.node (o214 P) .nil .nil)) (.node (o118 P) (.node (o182 P) .nil .nil) .nil))) (.node (o30 P) (.node (o46 P) (.node (o78 P) (.node (o142 P) .nil .nil) (.node (o206 P) .nil .nil)) (.node (o110 P) (.node (o174 P) .nil .nil) .nil)) (.node (o62 P) (.node (o94 P) (.node (o158 P) .nil .nil) (.node (o222 P) .nil .nil)) (.node (o126 P) (.node (o190 P) .nil .nil) .nil)))))))
noncomputable def SE0 (w : World) (os : OsState) : SharedT := ⟨TE0 w.params, 231, {}, #[], boot_drawn, 490, os⟩
noncomputable def TE8 (P : Params) : BT := (.node (boot_o_0 P) (.node (boot_o_1 P) (.node (o3v5 P) (.node (boot_o_7 P) (.node (o15 P) (.node (o31 P) (.node (o63 P) (.node (o127 P) (.node (o255 P) .nil .nil) .nil) (.node (o191 P) .nil .nil)) (.node (o95 P) (.node (o159 P) .nil .nil) (.node (o223 P) .nil .nil))) (.node (o47 P) (.node (o79 P) (.node (o143 P) (.node (o271 P) .nil .nil) .nil) (.node (o207 P) .nil .nil)) (.node (o111 P) (.node (o175 P) .nil .nil) (.node (o239 P) .nil .nil)))) (.node (o23 P) (.node (o39 P) (.node (o71 P) (.node (o135 P) (.node (o263 P) .nil .nil) .nil) (.node (o199 P) .nil .nil)) (.node (o103 P) (.node (o167 P) .nil .nil) (.node (o231 P) .nil .nil))) (.node (o55 P) (.node (o87 P) (.node (o151 P) .nil .nil) (.node (o215 P) .nil .nil)) (.node (o119 P) (.node (o183 P) .nil .nil) (.node (o247 P) .nil .nil))))) (.node (o11 P) (.node (o19 P) (.node (o35 P) (.node (o67 P) (.node (o131 P) (.node (o259 P) .nil .nil) .nil) (.node (o195 P) .nil .nil)) (.node (o99 P) (.node (o163 P) .nil .nil) (.node (o227v6 P) .nil .nil))) (.node (o51 P) (.node (o83 P) (.node (o147 P) .nil .nil) (.node (o211 P) .nil .nil)) (.node (o115 P) (.node (o179 P) .nil .nil) (.node (o243 P) .nil .nil)))) (.node (o27 P) (.node (o43 P) (.node (o75 P) (.node (o139 P) (.node (o267 P) .nil .nil) .nil) (.node (o203 P) .nil .nil)) (.node (o107 P) (.node (o171 P) .nil .nil) (.node (o235 P) .nil .nil))) (.node (o59 P) (.node (o91 P) (.node (o155 P) .nil .nil) (.node (o219 P) .nil .nil)) (.node (o123 P) (.node (o187 P) .nil .nil) (.node (o251 P) .nil .nil)))))) (.node (boot_o_5 P) (.node (boot_o_9 P) (.node (o17 P) (.node (o33 P) (.node (o65 P) (.node (o129 P) (.node (o257 P) .nil .nil) .nil) (.node (o193 P) .nil .nil)) (.node (o97 P) (.node (o161 P) .nil .nil) (.node (o225v9 P) .nil .nil))) (.node (o49 P) (.node (o81 P) (.node (o145 P) .nil .nil) (.node (o209 P) .nil .nil)) (.node (o113 P) (.node (o177 P) .nil .nil) (.node (o241 P) .nil .nil)))) (.node (o25 P) (.node (o41 P) (.node (o73 P) (.node (o137 P) (.node (o265 P) .nil .nil) .nil) (.node (o201 P) .nil .nil)) (.node (o105 P) (.node (o169 P) .nil .nil) (.node (o233 P) .nil .nil))) (.node (o57 P) (.node (o89 P) (.node (o153 P) .nil .nil) (.node (o217 P) .nil .nil)) (.node (o121 P) (.node (o185 P) .nil .nil) (.node (o249 P) .nil .nil))))) (.node (o13 P) (.node (o21 P) (.node (o37 P) (.node (o69 P) (.node (o133 P) (.node (o261 P) .nil .nil) .nil) (.node (o197 P) .nil .nil)) (.node (o101 P) (.node (o165 P) .nil .nil) (.node (o229 P) .nil .nil))) (.node (o53 P) (.node (o85 P) (.node (o149 P) .nil .nil) (.node (o213 P) .nil .nil)) (.node (o117 P) (.node (o181 P) .nil .nil) (.node (o245 P) .nil .nil)))) (.node (o29 P) (.node (o45 P) (.node (o77 P) (.node (o141 P) (.node (o269 P) .nil .nil) .nil) (.node (o205 P) .nil .nil)) (.node (o109 P) (.node (o173 P) .nil .nil) (.node (o237 P) .nil .nil))) (.node (o61 P) (.node (o93 P) (.node (o157 P) .nil .nil) (.node (o221 P) .nil .nil)) (.node (o125 P) (.node (o189 P) .nil .nil) (.node (o253 P) .nil .nil))))))) (.node (boot_o_2 P) (.node (boot_o_4 P) (.node (boot_o_8 P) (.node (o16 P) (.node (o32 P) (.node (o64 P) (.node (o128 P) (.node (o256 P) .nil .nil) .nil) (.node (o192 P) .nil .nil)) (.node (o96 P) (.node (o160 P) .nil .nil) (.node (o224 P) .nil .nil))) (.node (o48 P) (.node (o80 P) (.node (o144 P) (.node (o272 P) .nil .nil) .nil) (.node (o208 P) .nil .nil)) (.node (o112 P) (.node (o176 P) .nil .nil) (.node (o240 P) .nil .nil)))) (.node (o24 P) (.node (o40 P) (.node (o72 P) (.node (o136 P) (.node (o264 P) .nil .nil) .nil) (.node (o200 P) .nil .nil)) (.node (o104 P) (.node (o168 P) .nil .nil) (.node (o232 P) .nil .nil))) (.node (o56 P) (.node (o88 P) (.node (o152 P) .nil .nil) (.node (o216 P) .nil .nil)) (.node (o120 P) (.node (o184 P) .nil .nil) (.node (o248 P) .nil .nil))))) (.node (o12v4 P) (.node (o20 P) (.node (o36 P) (.node (o68 P) (.node (o132 P) (.node (o260 P) .nil .nil) .nil) (.node (o196 P) .nil .nil)) (.node (o100 P) (.node (o164 P) .nil .nil) (.node (o228 P) .nil .nil))) (.node (o52 P) (.node (o84 P) (.node (o148 P) .nil .nil) (.node (o212 P) .nil .nil)) (.node (o116 P) (.node (o180 P) .nil .nil) (.node (o244 P) .nil .nil)))) (.node (o28 P) (.node (o44 P) (.node (o76 P) (.node (o140 P) (.node (o268 P) .nil .nil) .nil) (.node (o204 P) .nil .nil)) (.node (o108 P) (.node (o172 P) .nil .nil) (.node (o236 P) .nil .nil))) (.node (o60 P) (.node (o92 P) (.node (o156 P) .nil .nil) (.node (o220 P) .nil .nil)) (.node (o124 P) (.node (o188 P) .nil .nil) (.node (o252 P) .nil .nil)))))) (.node (boot_o_6 P) (.node (boot_o_10 P) (.node (o18 P) (.node (o34 P) (.node (o66 P) (.node (o130 P) (.node (o258 P) .nil .nil) .nil) (.node (o194 P) .nil .nil)) (.node (o98 P) (.node (o162 P) .nil .nil) (.node (o226 P) .nil .nil))) (.node (o50 P) (.node (o82 P) (.node (o146 P) .nil .nil) (.node (o210 P) .nil .nil)) (.node (o114 P) (.node (o178 P) .nil .nil) (.node (o242 P) .nil .nil)))) (.node (o26 P) (.node (o42 P) (.node (o74 P) (.node (o138 P) (.node (o266 P) .nil .nil) .nil) (.node (o202 P) .nil .nil)) (.node (o106 P) (.node (o170 P) .nil .nil) (.node (o234 P) .nil .nil))) (.node (o58 P) (.node (o90 P) (.node (o154 P) .nil .nil) (.node (o218 P) .nil .nil)) (.node (o122 P) (.node (o186 P) .nil .nil) (.node (o250 P) .nil .nil))))) (.node (o14 P) (.node (o22 P) (.node (o38 P) (.node (o70 P) (.node (o134 P) (.node (o262 P) .nil .nil) .nil) (.node (o198 P) .nil .nil)) (.node (o102 P) (.node (o166 P) .nil .nil) (.node (oSet P) .nil .nil))) (.node (o54 P) (.node (o86 P) (.node (o150 P) .nil .nil) (.node (o214 P) .nil .nil)) (.node (o118 P) (.node (o182 P) .nil .nil) (.node (o246 P) .nil .nil)))) (.node (o30 P) (.node (o46 P) (.node (o78 P) (.node (o142 P) (.node (o270 P) .nil .nil) .nil) (.node (o206 P) .nil .nil)) (.node (o110 P) (.node (o174 P) .nil .nil) (.node (o238 P) .nil .nil))) (.node (o62 P) (.node (o94 P) (.node (o158 P) .nil .nil) (.node (o222 P) .nil .nil)) (.node (o126 P) (.node (o190 P) .nil .nil) (.node (o254 P) .nil .nil))))))))
noncomputable def SE8 (w : World) (os : OsState) : SharedT := ⟨TE8 w.params, 273, {}, #[], boot_drawn, 542, os⟩
noncomputable def TE9 (P : Params) : BT := (.node (boot_o_0 P) (.node (boot_o_1 P) (.node (o3v5 P) (.node (boot_o_7 P) (.node (o15 P) (.node (o31 P) (.node (o63 P) (.node (o127 P) (.node (o255 P) .nil .nil) .nil) (.node (o191 P) (.node (amI r0_15) .nil .nil) .nil)) (.node (o95 P) (.node (o159 P) (.node (amF P r0_4) .nil .nil) .nil) (.node (o223 P) .nil .nil))) (.node (o47 P) (.node (o79 P) (.node (o143 P) (.node (o271 P) .nil .nil) .nil) (.node (o207 P) (.node (amF P r0_20) .nil .nil) .nil)) (.node (o111 P) (.node (o175 P) (.node (amD P r0_10) .nil .nil) .nil) (.node (o239 P) .nil .nil)))) (.node (o23 P) (.node (o39 P) (.node (o71 P) (.node (o135 P) (.node (o263 P) .nil .nil) .nil) (.node (o199 P) (.node (amD P r0_18) .nil .nil) .nil)) (.node (o103 P) (.node (o167 P) (.node (amI r0_7) .nil .nil) .nil) (.node (o231 P) .nil .nil))) (.node (o55 P) (.node (o87 P) (.node (o151 P) (.node (amD P r0_2) .nil .nil) .nil) (.node (o215 P) .nil .nil)) (.node (o119 P) (.node (o183 P) (.node (amF P r0_12) .nil .nil) .nil) (.node (o247 P) .nil .nil))))) (.node (o11 P) (.node (o19 P) (.node (o35 P) (.node (o67 P) (.node (o131 P) (.node (o259 P) .nil .nil) .nil) (.node (o195 P) (.node (amF P r0_16) .nil .nil) .nil)) (.node (o99 P) (.node (o163 P) (.node (amD P r0_6) .nil .nil) .nil) (.node (o227v6 P) .nil .nil))) (.node (o51 P) (.node (o83 P) (.node (o147 P) (.node (amF P r0_0) .nil .nil) .nil) (.node (o211 P) (.node (amD P r0_22) .nil .nil) .nil)) (.node (o115 P) (.node (o179 P) (.node (amI r0_11) .nil .nil) .nil) (.node (o243 P) .nil .nil)))) (.node (o27 P) (.node (o43 P) (.node (o75 P) (.node (o139 P) (.node (o267 P) .nil .nil) .nil) (.node (o203 P) (.node (amI r0_19) .nil .nil) .nil)) (.node (o107 P) (.node (o171 P) (.node (amF P r0_8) .nil .nil) .nil) (.node (o235 P) .nil .nil))) (.node (o59 P) (.node (o91 P) (.node (o155 P) (.node (amI r0_3) .nil .nil) .nil) (.node (o219 P) .nil .nil)) (.node (o123 P) (.node (o187 P) (.node (amD P r0_14) .nil .nil) .nil) (.node (o251 P) .nil .nil)))))) (.node (boot_o_5 P) (.node (boot_o_9 P) (.node (o17 P) (.node (o33 P) (.node (o65 P) (.node (o129 P) (.node (o257 P) .nil .nil) .nil) (.node (o193 P) (.node (amD P r0_16) .nil .nil) .nil)) (.node (o97 P) (.node (o161 P) (.node (amI r0_5) .nil .nil) .nil) (.node (o225v10 P) .nil .nil))) (.node (o49 P) (.node (o81 P) (.node (o145 P) (.node (amD P r0_0) .nil .nil) .nil) (.node (o209 P) (.node (amI r0_21) .nil .nil) .nil)) (.node (o113 P) (.node (o177 P) (.node (amF P r0_10) .nil .nil) .nil) (.node (o241 P) .nil .nil)))) (.node (o25 P) (.node (o41 P) (.node (o73 P) (.node (o137 P) (.node (o265 P) .nil .nil) .nil) (.node (o201 P) (.node (amF P r0_18) .nil .nil) .nil)) (.node (o105 P) (.node (o169 P) (.node (amD P r0_8) .nil .nil) .nil) (.node (o233 P) .nil .nil))) (.node (o57 P) (.node (o89 P) (.node (o153 P) (.node (amF P r0_2) .nil .nil) .nil) (.node (o217 P) .nil .nil)) (.node (o121 P) (.node (o185 P) (.node (amI r0_13) .nil .nil) .nil) (.node (o249 P) .nil .nil))))) (.node (o13 P) (.node (o21 P) (.node (o37 P) (.node (o69 P) (.node (o133 P) (.node (o261 P) .nil .nil) .nil) (.node (o197 P) (.node (amI r0_17) .nil .nil) .nil)) (.node (o101 P) (.node (o165 P) (.node (amF P r0_6) .nil .nil) .nil) (.node (o229 P) .nil .nil))) (.node (o53 P) (.node (o85 P) (.node (o149 P) (.node (amI r0_1) .nil .nil) .nil) (.node (o213 P) (.node (amF P r0_22) .nil .nil) .nil)) (.node (o117 P) (.node (o181 P) (.node (amD P r0_12) .nil .nil) .nil) (.node (o245 P) .nil .nil)))) (.node (o29 P) (.node (o45 P) (.node (o77 P) (.node (o141 P) (.node (o269 P) .nil .nil) .nil) (.node (o205 P) (.node (amD P r0_20) .nil .nil) .nil)) (.node (o109 P) (.node (o173 P) (.node (amI r0_9) .nil .nil) .nil) (.node (o237 P) .nil .nil))) (.node (o61 P) (.node (o93 P) (.node (o157 P) (.node (amD P r0_4) .nil .nil) .nil) (.node (o221 P) .nil .nil)) (.node (o125 P) (.node (o189 P) (.node (amF P r0_14) .nil .nil) .nil) (.node (o253 P) .nil .nil))))))) (.node (boot_o_2 P) (.node (boot_o_4 P) (.node (boot_o_8 P) (.node (o16 P) (.node (o32 P) (.node (o64 P) (.node (o128 P) (.node (o256 P) .nil .nil) .nil) (.node (o192 P) (.node (amF P r0_15) .nil .nil) .nil)) (.node (o96 P) (.node (o160 P) (.node (amD P r0_5) .nil .nil) .nil) (.node (o224 P) .nil .nil))) (.node (o48 P) (.node (o80 P) (.node (o144 P) (.node (o272 P) .nil .nil) .nil) (.node (o208 P) (.node (amD P r0_21) .nil .nil) .nil)) (.node (o112 P) (.node (o176 P) (.node (amI r0_10) .nil .nil) .nil) (.node (o240 P) .nil .nil)))) (.node (o24 P) (.node (o40 P) (.node (o72 P) (.node (o136 P) (.node (o264 P) .nil .nil) .nil) (.node (o200 P) (.node (amI r0_18) .nil .nil) .nil)) (.node (o104 P) (.node (o168 P) (.node (amF P r0_7) .nil .nil) .nil) (.node (o232 P) .nil .nil))) (.node (o56 P) (.node (o88 P) (.node (o152 P) (.node (amI r0_2) .nil .nil) .nil) (.node (o216 P) .nil .nil)) (.node (o120 P) (.node (o184 P) (.node (amD P r0_13) .nil .nil) .nil) (.node (o248 P) .nil .nil))))) (.node (o12v4 P) (.node (o20 P) (.node (o36 P) (.node (o68 P) (.node (o132 P) (.node (o260 P) .nil .nil) .nil) (.node (o196 P) (.node (amD P r0_17) .nil .nil) .nil)) (.node (o100 P) (.node (o164 P) (.node (amI r0_6) .nil .nil) .nil) (.node (o228 P) .nil .nil))) (.node (o52 P) (.node (o84 P) (.node (o148 P) (.node (amD P r0_1) .nil .nil) .nil) (.node (o212 P) (.node (amI r0_22) .nil .nil) .nil)) (.node (o116 P) (.node (o180 P) (.node (amF P r0_11) .nil .nil) .nil) (.node (o244 P) .nil .nil)))) (.node (o28 P) (.node (o44 P) (.node (o76 P) (.node (o140 P) (.node (o268 P) .nil .nil) .nil) (.node (o204 P) (.node (amF P r0_19) .nil .nil) .nil)) (.node (o108 P) (.node (o172 P) (.node (amD P r0_9) .nil .nil) .nil) (.node (o236 P) .nil .nil))) (.node (o60 P) (.node (o92 P) (.node (o156 P) (.node (amF P r0_3) .nil .nil) .nil) (.node (o220 P) .nil .nil)) (.node (o124 P) (.node (o188 P) (.node (amI r0_14) .nil .nil) .nil) (.node (o252 P) .nil .nil)))))) (.node (boot_o_6 P) (.node (boot_o_10 P) (.node (o18 P) (.node (o34 P) (.node (o66 P) (.node (o130 P) (.node (o258 P) .nil .nil) .nil) (.node (o194 P) (.node (amI r0_16) .nil .nil) .nil)) (.node (o98 P) (.node (o162 P) (.node (amF P r0_5) .nil .nil) .nil) (.node (o226 P) .nil .nil))) (.node (o50 P) (.node (o82 P) (.node (o146 P) (.node (amI r0_0) .nil .nil) .nil) (.node (o210 P) (.node (amF P r0_21) .nil .nil) .nil)) (.node (o114 P) (.node (o178 P) (.node (amD P r0_11) .nil .nil) .nil) (.node (o242 P) .nil .nil)))) (.node (o26 P) (.node (o42 P) (.node (o74 P) (.node (o138 P) (.node (o266 P) .nil .nil) .nil) (.node (o202 P) (.node (amD P r0_19) .nil .nil) .nil)) (.node (o106 P) (.node (o170 P) (.node (amI r0_8) .nil .nil) .nil) (.node (o234 P) .nil .nil))) (.node (o58 P) (.node (o90 P) (.node (o154 P) (.node (amD P r0_3) .nil .nil) .nil) (.node (o218 P) .nil .nil)) (.node (o122 P) (.node (o186 P) (.node (amF P r0_13) .nil .nil) .nil) (.node (o250 P) .nil .nil))))) (.node (o14 P) (.node (o22 P) (.node (o38 P) (.node (o70 P) (.node (o134 P) (.node (o262 P) .nil .nil) .nil) (.node (o198 P) (.node (amF P r0_17) .nil .nil) .nil)) (.node (o102 P) (.node (o166 P) (.node (amD P r0_7) .nil .nil) .nil) (.node (oSet P) .nil .nil))) (.node (o54 P) (.node (o86 P) (.node (o150 P) (.node (amF P r0_1) .nil .nil) .nil) (.node (o214 P) (.node (o342 P) .nil .nil) .nil)) (.node (o118 P) (.node (o182 P) (.node (amI r0_12) .nil .nil) .nil) (.node (o246 P) .nil .nil)))) (.node (o30 P) (.node (o46 P) (.node (o78 P) (.node (o142 P) (.node (o270 P) .nil .nil) .nil) (.node (o206 P) (.node (amI r0_20) .nil .nil) .nil)) (.node (o110 P) (.node (o174 P) (.node (amF P r0_9) .nil .nil) .nil) (.node (o238 P) .nil .nil))) (.node (o62 P) (.node (o94 P) (.node (o158 P) (.node (amI r0_4) .nil .nil) .nil) (.node (o222 P) .nil .nil)) (.node (o126 P) (.node (o190 P) (.node (amD P r0_15) .nil .nil) .nil) (.node (o254 P) .nil .nil))))))))
noncomputable def SE9 (w : World) (os : OsState) : SharedT := ⟨TE9 w.params, 343, {}, #[], boot_drawn, 860, os⟩
noncomputable def TE10 (P : Params) : BT := (.node (boot_o_0 P) (.node (boot_o_1 P) (.node (o3v5 P) (.node (boot_o_7 P) (.node (o15 P) (.node (o31 P) (.node (o63 P) (.node (o127 P) (.node (o255 P) (.node (amD P r1_56) .nil .nil) .nil) (.node (amI r1_13) .nil .nil)) (.node (o191 P) (.node (amI r0_15) .nil .nil) (.node (amF P r1_34) .nil .nil))) (.node (o95 P) (.node (o159 P) (.node (amF P r0_4) (.node (amF P r1_66) .nil .nil) .nil) (.node (amD P r1_24) .nil .nil)) (.node (o223 P) (.node (amF P r1_2) .nil .nil) (.node (amI r1_45) .nil .nil)))) (.node (o47 P) (.node (o79 P) (.node (o143 P) (.node (o271 P) (.node (amI r1_61) .nil .nil) .nil) (.node (amF P r1_18) .nil .nil)) (.node (o207 P) (.node (amF P r0_20) .nil .nil) (.node (amD P r1_40) .nil .nil))) (.node (o111 P) (.node (o175 P) (.node (amD P r0_10) .nil .nil) (.node (amI r1_29) .nil .nil)) (.node (o239 P) (.node (amD P r1_8) .nil .nil) (.node (amF P r1_50) .nil .nil))))) (.node (o23 P) (.node (o39 P) (.node (o71 P) (.node (o135 P) (.node (o263 P) (.node (amF P r1_58) .nil .nil) .nil) (.node (amD P r1_16) .nil .nil)) (.node (o199 P) (.node (amD P r0_18) .nil .nil) (.node (amI r1_37) .nil .nil))) (.node (o103 P) (.node (o167 P) (.node (amI r0_7) (.node (amI r1_69) .nil .nil) .nil) (.node (amF P r1_26) .nil .nil)) (.node (o231 P) (.node (amI r1_5) .nil .nil) (.node (amD P r1_48) .nil .nil)))) (.node (o55 P) (.node (o87 P) (.node (o151 P) (.node (amD P r0_2) (.node (amD P r1_64) .nil .nil) .nil) (.node (amI r1_21) .nil .nil)) (.node (o215 P) (.node (amD P r1_0) .nil .nil) (.node (amF P r1_42) .nil .nil))) (.node (o119 P) (.node (o183 P) (.node (amF P r0_12) .nil .nil) (.node (amD P r1_32) .nil .nil)) (.node (o247 P) (.node (amF P r1_10) .nil .nil) (.node (amI r1_53) .nil .nil)))))) (.node (o11 P) (.node (o19 P) (.node (o35 P) (.node (o67 P) (.node (o131 P) (.node (o259 P) (.node (amI r1_57) .nil .nil) .nil) (.node (amF P r1_14) .nil .nil)) (.node (o195 P) (.node (amF P r0_16) .nil .nil) (.node (amD P r1_36) .nil .nil))) (.node (o99 P) (.node (o163 P) (.node (amD P r0_6) (.node (amD P r1_68) .nil .nil) .nil) (.node (amI r1_25) .nil .nil)) (.node (o227v6 P) (.node (amD P r1_4) .nil .nil) (.node (amF P r1_46) .nil .nil)))) (.node (o51 P) (.node (o83 P) (.node (o147 P) (.node (amF P r0_0) (.node (amF P r1_62) .nil .nil) .nil) (.node (amD P r1_20) .nil .nil)) (.node (o211 P) (.node (amD P r0_22) .nil .nil) (.node (amI r1_41) .nil .nil))) (.node (o115 P) (.node (o179 P) (.node (amI r0_11) .nil .nil) (.node (amF P r1_30) .nil .nil)) (.node (o243 P) (.node (amI r1_9) .nil .nil) (.node (amD P r1_52) .nil .nil))))) (.node (o27 P) (.node (o43 P) (.node (o75 P) (.node (o139 P) (.node (o267 P) (.node (amD P r1_60) .nil .nil) .nil) (.node (amI r1_17) .nil .nil)) (.node (o203 P) (.node (amI r0_19) .nil .nil) (.node (amF P r1_38) .nil .nil))) (.node (o107 P) (.node (o171 P) (.node (amF P r0_8) (.node (amF P r1_70) .nil .nil) .nil) (.node (amD P r1_28) .nil .nil)) (.node (o235 P) (.node (amF P r1_6) .nil .nil) (.node (amI r1_49) .nil .nil)))) (.node (o59 P) (.node (o91 P) (.node (o155 P) (.node (amI r0_3) (.node (amI r1_65) .nil .nil) .nil) (.node (amF P r1_22) .nil .nil)) (.node (o219 P) (.node (amI r1_1) .nil .nil) (.node (amD P r1_44) .nil .nil))) (.node (o123 P) (.node (o187 P) (.node (amD P r0_14) .nil .nil) (.node (amI r1_33) .nil .nil)) (.node (o251 P) (.node (amD P r1_12) .nil .nil) (.node (amF P r1_54) .nil .nil))))))) (.node (boot_o_5 P) (.node (boot_o_9 P) (.node (o17 P) (.node (o33 P) (.node (o65 P) (.node (o129 P) (.node (o257 P) (.node (amF P r1_56) .nil .nil) .nil) (.node (amD P r1_14) .nil .nil)) (.node (o193 P) (.node (amD P r0_16) .nil .nil) (.node (amI r1_35) .nil .nil))) (.node (o97 P) (.node (o161 P) (.node (amI r0_5) (.node (amI r1_67) .nil .nil) .nil) (.node (amF P r1_24) .nil .nil)) (.node (o225v11 P) (.node (amI r1_3) .nil .nil) (.node (amD P r1_46) .nil .nil)))) (.node (o49 P) (.node (o81 P) (.node (o145 P) (.node (amD P r0_0) (.node (amD P r1_62) .nil .nil) .nil) (.node (amI r1_19) .nil .nil)) (.node (o209 P) (.node (amI r0_21) .nil .nil) (.node (amF P r1_40) .nil .nil))) (.node (o113 P) (.node (o177 P) (.node (amF P r0_10) .nil .nil) (.node (amD P r1_30) .nil .nil)) (.node (o241 P) (.node (amF P r1_8) .nil .nil) (.node (amI r1_51) .nil .nil))))) (.node (o25 P) (.node (o41 P) (.node (o73 P) (.node (o137 P) (.node (o265 P) (.node (amI r1_59) .nil .nil) .nil) (.node (amF P r1_16) .nil .nil)) (.node (o201 P) (.node (amF P r0_18) .nil .nil) (.node (amD P r1_38) .nil .nil))) (.node (o105 P) (.node (o169 P) (.node (amD P r0_8) (.node (amD P r1_70) .nil .nil) .nil) (.node (amI r1_27) .nil .nil)) (.node (o233 P) (.node (amD P r1_6) .nil .nil) (.node (amF P r1_48) .nil .nil)))) (.node (o57 P) (.node (o89 P) (.node (o153 P) (.node (amF P r0_2) (.node (amF P r1_64) .nil .nil) .nil) (.node (amD P r1_22) .nil .nil)) (.node (o217 P) (.node (amF P r1_0) .nil .nil) (.node (amI r1_43) .nil .nil))) (.node (o121 P) (.node (o185 P) (.node (amI r0_13) .nil .nil) (.node (amF P r1_32) .nil .nil)) (.node (o249 P) (.node (amI r1_11) .nil .nil) (.node (amD P r1_54) .nil .nil)))))) (.node (o13 P) (.node (o21 P) (.node (o37 P) (.node (o69 P) (.node (o133 P) (.node (o261 P) (.node (amD P r1_58) .nil .nil) .nil) (.node (amI r1_15) .nil .nil)) (.node (o197 P) (.node (amI r0_17) .nil .nil) (.node (amF P r1_36) .nil .nil))) (.node (o101 P) (.node (o165 P) (.node (amF P r0_6) (.node (amF P r1_68) .nil .nil) .nil) (.node (amD P r1_26) .nil .nil)) (.node (o229 P) (.node (amF P r1_4) .nil .nil) (.node (amI r1_47) .nil .nil)))) (.node (o53 P) (.node (o85 P) (.node (o149 P) (.node (amI r0_1) (.node (amI r1_63) .nil .nil) .nil) (.node (amF P r1_20) .nil .nil)) (.node (o213 P) (.node (amF P r0_22) .nil .nil) (.node (amD P r1_42) .nil .nil))) (.node (o117 P) (.node (o181 P) (.node (amD P r0_12) .nil .nil) (.node (amI r1_31) .nil .nil)) (.node (o245 P) (.node (amD P r1_10) .nil .nil) (.node (amF P r1_52) .nil .nil))))) (.node (o29 P) (.node (o45 P) (.node (o77 P) (.node (o141 P) (.node (o269 P) (.node (amF P r1_60) .nil .nil) .nil) (.node (amD P r1_18) .nil .nil)) (.node (o205 P) (.node (amD P r0_20) .nil .nil) (.node (amI r1_39) .nil .nil))) (.node (o109 P) (.node (o173 P) (.node (amI r0_9) .nil .nil) (.node (amF P r1_28) .nil .nil)) (.node (o237 P) (.node (amI r1_7) .nil .nil) (.node (amD P r1_50) .nil .nil)))) (.node (o61 P) (.node (o93 P) (.node (o157 P) (.node (amD P r0_4) (.node (amD P r1_66) .nil .nil) .nil) (.node (amI r1_23) .nil .nil)) (.node (o221 P) (.node (amD P r1_2) .nil .nil) (.node (amF P r1_44) .nil .nil))) (.node (o125 P) (.node (o189 P) (.node (amF P r0_14) .nil .nil) (.node (amD P r1_34) .nil .nil)) (.node (o253 P) (.node (amF P r1_12) .nil .nil) (.node (amI r1_55) .nil .nil)))))))) (.node (boot_o_2 P) (.node (boot_o_4 P) (.node (boot_o_8 P) (.node (o16 P) (.node (o32 P) (.node (o64 P) (.node (o128 P) (.node (o256 P) (.node (amI r1_56) .nil .nil) .nil) (.node (amF P r1_13) .nil .nil)) (.node (o192 P) (.node (amF P r0_15) .nil .nil) (.node (amD P r1_35) .nil .nil))) (.node (o96 P) (.node (o160 P) (.node (amD P r0_5) (.node (amD P r1_67) .nil .nil) .nil) (.node (amI r1_24) .nil .nil)) (.node (o224 P) (.node (amD P r1_3) .nil .nil) (.node (amF P r1_45) .nil .nil)))) (.node (o48 P) (.node (o80 P) (.node (o144 P) (.node (o272 P) (.node (amF P r1_61) .nil .nil) .nil) (.node (amD P r1_19) .nil .nil)) (.node (o208 P) (.node (amD P r0_21) .nil .nil) (.node (amI r1_40) .nil .nil))) (.node (o112 P) (.node (o176 P) (.node (amI r0_10) .nil .nil) (.node (amF P r1_29) .nil .nil)) (.node (o240 P) (.node (amI r1_8) .nil .nil) (.node (amD P r1_51) .nil .nil))))) (.node (o24 P) (.node (o40 P) (.node (o72 P) (.node (o136 P) (.node (o264 P) (.node (amD P r1_59) .nil .nil) .nil) (.node (amI r1_16) .nil .nil)) (.node (o200 P) (.node (amI r0_18) .nil .nil) (.node (amF P r1_37) .nil .nil))) (.node (o104 P) (.node (o168 P) (.node (amF P r0_7) (.node (amF P r1_69) .nil .nil) .nil) (.node (amD P r1_27) .nil .nil)) (.node (o232 P) (.node (amF P r1_5) .nil .nil) (.node (amI r1_48) .nil .nil)))) (.node (o56 P) (.node (o88 P) (.node (o152 P) (.node (amI r0_2) (.node (amI r1_64) .nil .nil) .nil) (.node (amF P r1_21) .nil .nil)) (.node (o216 P) (.node (amI r1_0) .nil .nil) (.node (amD P r1_43) .nil .nil))) (.node (o120 P) (.node (o184 P) (.node (amD P r0_13) .nil .nil) (.node (amI r1_32) .nil .nil)) (.node (o248 P) (.node (amD P r1_11) .nil .nil) (.node (amF P r1_53) .nil .nil)))))) (.node (o12v4 P) (.node (o20 P) (.node (o36 P) (.node (o68 P) (.node (o132 P) (.node (o260 P) (.node (amF P r1_57) .nil .nil) .nil) (.node (amD P r1_15) .nil .nil)) (.node (o196 P) (.node (amD P r0_17) .nil .nil) (.node (amI r1_36) .nil .nil))) (.node (o100 P) (.node (o164 P) (.node (amI r0_6) (.node (amI r1_68) .nil .nil) .nil) (.node (amF P r1_25) .nil .nil)) (.node (o228 P) (.node (amI r1_4) .nil .nil) (.node (amD P r1_47) .nil .nil)))) (.node (o52 P) (.node (o84 P) (.node (o148 P) (.node (amD P r0_1) (.node (amD P r1_63) .nil .nil) .nil) (.node (amI r1_20) .nil .nil)) (.node (o212 P) (.node (amI r0_22) .nil .nil) (.node (amF P r1_41) .nil .nil))) (.node (o116 P) (.node (o180 P) (.node (amF P r0_11) .nil .nil) (.node (amD P r1_31) .nil .nil)) (.node (o244 P) (.node (amF P r1_9) .nil .nil) (.node (amI r1_52) .nil .nil))))) (.node (o28 P) (.node (o44 P) (.node (o76 P) (.node (o140 P) (.node (o268 P) (.node (amI r1_60) .nil .nil) .nil) (.node (amF P r1_17) .nil .nil)) (.node (o204 P) (.node (amF P r0_19) .nil .nil) (.node (amD P r1_39) .nil .nil))) (.node (o108 P) (.node (o172 P) (.node (amD P r0_9) (.node (o556 P) .nil .nil) .nil) (.node (amI r1_28) .nil .nil)) (.node (o236 P) (.node (amD P r1_7) .nil .nil) (.node (amF P r1_49) .nil .nil)))) (.node (o60 P) (.node (o92 P) (.node (o156 P) (.node (amF P r0_3) (.node (amF P r1_65) .nil .nil) .nil) (.node (amD P r1_23) .nil .nil)) (.node (o220 P) (.node (amF P r1_1) .nil .nil) (.node (amI r1_44) .nil .nil))) (.node (o124 P) (.node (o188 P) (.node (amI r0_14) .nil .nil) (.node (amF P r1_33) .nil .nil)) (.node (o252 P) (.node (amI r1_12) .nil .nil) (.node (amD P r1_55) .nil .nil))))))) (.node (boot_o_6 P) (.node (boot_o_10 P) (.node (o18 P) (.node (o34 P) (.node (o66 P) (.node (o130 P) (.node (o258 P) (.node (amD P r1_57) .nil .nil) .nil) (.node (amI r1_14) .nil .nil)) (.node (o194 P) (.node (amI r0_16) .nil .nil) (.node (amF P r1_35) .nil .nil))) (.node (o98 P) (.node (o162 P) (.node (amF P r0_5) (.node (amF P r1_67) .nil .nil) .nil) (.node (amD P r1_25) .nil .nil)) (.node (o226 P) (.node (amF P r1_3) .nil .nil) (.node (amI r1_46) .nil .nil)))) (.node (o50 P) (.node (o82 P) (.node (o146 P) (.node (amI r0_0) (.node (amI r1_62) .nil .nil) .nil) (.node (amF P r1_19) .nil .nil)) (.node (o210 P) (.node (amF P r0_21) .nil .nil) (.node (amD P r1_41) .nil .nil))) (.node (o114 P) (.node (o178 P) (.node (amD P r0_11) .nil .nil) (.node (amI r1_30) .nil .nil)) (.node (o242 P) (.node (amD P r1_9) .nil .nil) (.node (amF P r1_51) .nil .nil))))) (.node (o26 P) (.node (o42 P) (.node (o74 P) (.node (o138 P) (.node (o266 P) (.node (amF P r1_59) .nil .nil) .nil) (.node (amD P r1_17) .nil .nil)) (.node (o202 P) (.node (amD P r0_19) .nil .nil) (.node (amI r1_38) .nil .nil))) (.node (o106 P) (.node (o170 P) (.node (amI r0_8) (.node (amI r1_70) .nil .nil) .nil) (.node (amF P r1_27) .nil .nil)) (.node (o234 P) (.node (amI r1_6) .nil .nil) (.node (amD P r1_49) .nil .nil)))) (.node (o58 P) (.node (o90 P) (.node (o154 P) (.node (amD P r0_3) (.node (amD P r1_65) .nil .nil) .nil) (.node (amI r1_22) .nil .nil)) (.node (o218 P) (.node (amD P r1_1) .nil .nil) (.node (amF P r1_43) .nil .nil))) (.node (o122 P) (.node (o186 P) (.node (amF P r0_13) .nil .nil) (.node (amD P r1_33) .nil .nil)) (.node (o250 P) (.node (amF P r1_11) .nil .nil) (.node (amI r1_54) .nil .nil)))))) (.node (o14 P) (.node (o22 P) (.node (o38 P) (.node (o70 P) (.node (o134 P) (.node (o262 P) (.node (amI r1_58) .nil .nil) .nil) (.node (amF P r1_15) .nil .nil)) (.node (o198 P) (.node (amF P r0_17) .nil .nil) (.node (amD P r1_37) .nil .nil))) (.node (o102 P) (.node (o166 P) (.node (amD P r0_7) (.node (amD P r1_69) .nil .nil) .nil) (.node (amI r1_26) .nil .nil)) (.node (oSet P) (.node (amD P r1_5) .nil .nil) (.node (amF P r1_47) .nil .nil)))) (.node (o54 P) (.node (o86 P) (.node (o150 P) (.node (amF P r0_1) (.node (amF P r1_63) .nil .nil) .nil) (.node (amD P r1_21) .nil .nil)) (.node (o214 P) (.node (o342 P) .nil .nil) (.node (amI r1_42) .nil .nil))) (.node (o118 P) (.node (o182 P) (.node (amI r0_12) .nil .nil) (.node (amF P r1_31) .nil .nil)) (.node (o246 P) (.node (amI r1_10) .nil .nil) (.node (amD P r1_53) .nil .nil))))) (.node (o30 P) (.node (o46 P) (.node (o78 P) (.node (o142 P) (.node (o270 P) (.node (amD P r1_61) .nil .nil) .nil) (.node (amI r1_18) .nil .nil)) (.node (o206 P) (.node (amI r0_20) .nil .nil) (.node (amF P r1_39) .nil .nil))) (.node (o110 P) (.node (o174 P) (.node (amF P r0_9) .nil .nil) (.node (amD P r1_29) .nil .nil)) (.node (o238 P) (.node (amF P r1_7) .nil .nil) (.node (amI r1_50) .nil .nil)))) (.node (o62 P) (.node (o94 P) (.node (o158 P) (.node (amI r0_4) (.node (amI r1_66) .nil .nil) .nil) (.node (amF P r1_23) .nil .nil)) (.node (o222 P) (.node (amI r1_2) .nil .nil) (.node (amD P r1_45) .nil .nil))) (.node (o126 P) (.node (o190 P) (.node (amD P r0_15) .nil .nil) (.node (amI r1_34) .nil .nil)) (.node (o254 P) (.node (amD P r1_13) .nil .nil) (.node (amF P r1_55) .nil .nil)))))))))
noncomputable def SE10 (w : World) (os : OsState) : SharedT := ⟨TE10 w.params, 557, {}, #[], boot_drawn, 1820, os⟩
noncomputable def TE11 (P : Params) : BT := (.node (boot_o_0 P) (.node (boot_o_1 P) (.node (o3v5 P) (.node (boot_o_7 P) (.node (o15 P) (.node (o31 P) (.node (o63 P) (.node (o127 P) (.node (o255 P) (.node (amD P r1_56) .nil .nil) .nil) (.node (amI r1_13) (.node (amI r2_27) .nil .nil) .nil)) (.node (o191 P) (.node (amI r0_15) (.node (amD P r2_6) .nil .nil) .nil) (.node (amF P r1_34) .nil .nil))) (.node (o95 P) (.node (o159 P) (.node (amF P r0_4) (.node (amF P r1_66) .nil .nil) .nil) (.node (amD P r1_24) (.node (amD P r2_38) .nil .nil) .nil)) (.node (o223 P) (.node (amF P r1_2) (.node (amF P r2_16) .nil .nil) .nil) (.node (amI r1_45) .nil .nil)))) (.node (o47 P) (.node (o79 P) (.node (o143 P) (.node (o271 P) (.node (amI r1_61) .nil .nil) .nil) (.node (amF P r1_18) (.node (amF P r2_32) .nil .nil) .nil)) (.node (o207 P) (.node (amF P r0_20) (.node (amI r2_11) .nil .nil) .nil) (.node (amD P r1_40) .nil .nil))) (.node (o111 P) (.node (o175 P) (.node (amD P r0_10) (.node (amF P r2_0) .nil .nil) .nil) (.node (amI r1_29) .nil .nil)) (.node (o239 P) (.node (amD P r1_8) (.node (amD P r2_22) .nil .nil) .nil) (.node (amF P r1_50) .nil .nil))))) (.node (o23 P) (.node (o39 P) (.node (o71 P) (.node (o135 P) (.node (o263 P) (.node (amF P r1_58) .nil .nil) .nil) (.node (amD P r1_16) (.node (amD P r2_30) .nil .nil) .nil)) (.node (o199 P) (.node (amD P r0_18) (.node (amF P r2_8) .nil .nil) .nil) (.node (amI r1_37) .nil .nil))) (.node (o103 P) (.node (o167 P) (.node (amI r0_7) (.node (amI r1_69) .nil .nil) .nil) (.node (amF P r1_26) .nil .nil)) (.node (o231 P) (.node (amI r1_5) (.node (amI r2_19) .nil .nil) .nil) (.node (amD P r1_48) .nil .nil)))) (.node (o55 P) (.node (o87 P) (.node (o151 P) (.node (amD P r0_2) (.node (amD P r1_64) .nil .nil) .nil) (.node (amI r1_21) (.node (amI r2_35) .nil .nil) .nil)) (.node (o215 P) (.node (amD P r1_0) (.node (amD P r2_14) .nil .nil) .nil) (.node (amF P r1_42) .nil .nil))) (.node (o119 P) (.node (o183 P) (.node (amF P r0_12) (.node (amI r2_3) .nil .nil) .nil) (.node (amD P r1_32) .nil .nil)) (.node (o247 P) (.node (amF P r1_10) (.node (amF P r2_24) .nil .nil) .nil) (.node (amI r1_53) .nil .nil)))))) (.node (o11 P) (.node (o19 P) (.node (o35 P) (.node (o67 P) (.node (o131 P) (.node (o259 P) (.node (amI r1_57) .nil .nil) .nil) (.node (amF P r1_14) (.node (amF P r2_28) .nil .nil) .nil)) (.node (o195 P) (.node (amF P r0_16) (.node (amI r2_7) .nil .nil) .nil) (.node (amD P r1_36) .nil .nil))) (.node (o99 P) (.node (o163 P) (.node (amD P r0_6) (.node (amD P r1_68) .nil .nil) .nil) (.node (amI r1_25) (.node (amI r2_39) .nil .nil) .nil)) (.node (o227v6 P) (.node (amD P r1_4) (.node (amD P r2_18) .nil .nil) .nil) (.node (amF P r1_46) .nil .nil)))) (.node (o51 P) (.node (o83 P) (.node (o147 P) (.node (amF P r0_0) (.node (amF P r1_62) .nil .nil) .nil) (.node (amD P r1_20) (.node (amD P r2_34) .nil .nil) .nil)) (.node (o211 P) (.node (amD P r0_22) (.node (amF P r2_12) .nil .nil) .nil) (.node (amI r1_41) .nil .nil))) (.node (o115 P) (.node (o179 P) (.node (amI r0_11) (.node (amD P r2_2) .nil .nil) .nil) (.node (amF P r1_30) .nil .nil)) (.node (o243 P) (.node (amI r1_9) (.node (amI r2_23) .nil .nil) .nil) (.node (amD P r1_52) .nil .nil))))) (.node (o27 P) (.node (o43 P) (.node (o75 P) (.node (o139 P) (.node (o267 P) (.node (amD P r1_60) .nil .nil) .nil) (.node (amI r1_17) (.node (amI r2_31) .nil .nil) .nil)) (.node (o203 P) (.node (amI r0_19) (.node (amD P r2_10) .nil .nil) .nil) (.node (amF P r1_38) .nil .nil))) (.node (o107 P) (.node (o171 P) (.node (amF P r0_8) (.node (amF P r1_70) .nil .nil) .nil) (.node (amD P r1_28) .nil .nil)) (.node (o235 P) (.node (amF P r1_6) (.node (amF P r2_20) .nil .nil) .nil) (.node (amI r1_49) .nil .nil)))) (.node (o59 P) (.node (o91 P) (.node (o155 P) (.node (amI r0_3) (.node (amI r1_65) .nil .nil) .nil) (.node (amF P r1_22) (.node (amF P r2_36) .nil .nil) .nil)) (.node (o219 P) (.node (amI r1_1) (.node (amI r2_15) .nil .nil) .nil) (.node (amD P r1_44) .nil .nil))) (.node (o123 P) (.node (o187 P) (.node (amD P r0_14) (.node (amF P r2_4) .nil .nil) .nil) (.node (amI r1_33) .nil .nil)) (.node (o251 P) (.node (amD P r1_12) (.node (amD P r2_26) .nil .nil) .nil) (.node (amF P r1_54) .nil .nil))))))) (.node (boot_o_5 P) (.node (boot_o_9 P) (.node (o17 P) (.node (o33 P) (.node (o65 P) (.node (o129 P) (.node (o257 P) (.node (amF P r1_56) .nil .nil) .nil) (.node (amD P r1_14) (.node (amD P r2_28) .nil .nil) .nil)) (.node (o193 P) (.node (amD P r0_16) (.node (amF P r2_6) .nil .nil) .nil) (.node (amI r1_35) .nil .nil))) (.node (o97 P) (.node (o161 P) (.node (amI r0_5) (.node (amI r1_67) .nil .nil) .nil) (.node (amF P r1_24) (.node (amF P r2_38) .nil .nil) .nil)) (.node (o225v12 P) (.node (amI r1_3) (.node (amI r2_17) .nil .nil) .nil) (.node (amD P r1_46) .nil .nil)))) (.node (o49 P) (.node (o81 P) (.node (o145 P) (.node (amD P r0_0) (.node (amD P r1_62) .nil .nil) .nil) (.node (amI r1_19) (.node (amI r2_33) .nil .nil) .nil)) (.node (o209 P) (.node (amI r0_21) (.node (amD P r2_12) .nil .nil) .nil) (.node (amF P r1_40) .nil .nil))) (.node (o113 P) (.node (o177 P) (.node (amF P r0_10) (.node (amI r2_1) .nil .nil) .nil) (.node (amD P r1_30) .nil .nil)) (.node (o241 P) (.node (amF P r1_8) (.node (amF P r2_22) .nil .nil) .nil) (.node (amI r1_51) .nil .nil))))) (.node (o25 P) (.node (o41 P) (.node (o73 P) (.node (o137 P) (.node (o265 P) (.node (amI r1_59) .nil .nil) .nil) (.node (amF P r1_16) (.node (amF P r2_30) .nil .nil) .nil)) (.node (o201 P) (.node (amF P r0_18) (.node (amI r2_9) .nil .nil) .nil) (.node (amD P r1_38) .nil .nil))) (.node (o105 P) (.node (o169 P) (.node (amD P r0_8) (.node (amD P r1_70) .nil .nil) .nil) (.node (amI r1_27) .nil .nil)) (.node (o233 P) (.node (amD P r1_6) (.node (amD P r2_20) .nil .nil) .nil) (.node (amF P r1_48) .nil .nil)))) (.node (o57 P) (.node (o89 P) (.node (o153 P) (.node (amF P r0_2) (.node (amF P r1_64) .nil .nil) .nil) (.node (amD P r1_22) (.node (amD P r2_36) .nil .nil) .nil)) (.node (o217 P) (.node (amF P r1_0) (.node (amF P r2_14) .nil .nil) .nil) (.node (amI r1_43) .nil .nil))) (.node (o121 P) (.node (o185 P) (.node (amI r0_13) (.node (amD P r2_4) .nil .nil) .nil) (.node (amF P r1_32) .nil .nil)) (.node (o249 P) (.node (amI r1_11) (.node (amI r2_25) .nil .nil) .nil) (.node (amD P r1_54) .nil .nil)))))) (.node (o13 P) (.node (o21 P) (.node (o37 P) (.node (o69 P) (.node (o133 P) (.node (o261 P) (.node (amD P r1_58) .nil .nil) .nil) (.node (amI r1_15) (.node (amI r2_29) .nil .nil) .nil)) (.node (o197 P) (.node (amI r0_17) (.node (amD P r2_8) .nil .nil) .nil) (.node (amF P r1_36) .nil .nil))) (.node (o101 P) (.node (o165 P) (.node (amF P r0_6) (.node (amF P r1_68) .nil .nil) .nil) (.node (amD P r1_26) (.node (o677 P) .nil .nil) .nil)) (.node (o229 P) (.node (amF P r1_4) (.node (amF P r2_18) .nil .nil) .nil) (.node (amI r1_47) .nil .nil)))) (.node (o53 P) (.node (o85 P) (.node (o149 P) (.node (amI r0_1) (.node (amI r1_63) .nil .nil) .nil) (.node (amF P r1_20) (.node (amF P r2_34) .nil .nil) .nil)) (.node (o213 P) (.node (amF P r0_22) (.node (amI r2_13) .nil .nil) .nil) (.node (amD P r1_42) .nil .nil))) (.node (o117 P) (.node (o181 P) (.node (amD P r0_12) (.node (amF P r2_2) .nil .nil) .nil) (.node (amI r1_31) .nil .nil)) (.node (o245 P) (.node (amD P r1_10) (.node (amD P r2_24) .nil .nil) .nil) (.node (amF P r1_52) .nil .nil))))) (.node (o29 P) (.node (o45 P) (.node (o77 P) (.node (o141 P) (.node (o269 P) (.node (amF P r1_60) .nil .nil) .nil) (.node (amD P r1_18) (.node (amD P r2_32) .nil .nil) .nil)) (.node (o205 P) (.node (amD P r0_20) (.node (amF P r2_10) .nil .nil) .nil) (.node (amI r1_39) .nil .nil))) (.node (o109 P) (.node (o173 P) (.node (amI r0_9) (.node (amD P r2_0) .nil .nil) .nil) (.node (amF P r1_28) .nil .nil)) (.node (o237 P) (.node (amI r1_7) (.node (amI r2_21) .nil .nil) .nil) (.node (amD P r1_50) .nil .nil)))) (.node (o61 P) (.node (o93 P) (.node (o157 P) (.node (amD P r0_4) (.node (amD P r1_66) .nil .nil) .nil) (.node (amI r1_23) (.node (amI r2_37) .nil .nil) .nil)) (.node (o221 P) (.node (amD P r1_2) (.node (amD P r2_16) .nil .nil) .nil) (.node (amF P r1_44) .nil .nil))) (.node (o125 P) (.node (o189 P) (.node (amF P r0_14) (.node (amI r2_5) .nil .nil) .nil) (.node (amD P r1_34) .nil .nil)) (.node (o253 P) (.node (amF P r1_12) (.node (amF P r2_26) .nil .nil) .nil) (.node (amI r1_55) .nil .nil)))))))) (.node (boot_o_2 P) (.node (boot_o_4 P) (.node (boot_o_8 P) (.node (o16 P) (.node (o32 P) (.node (o64 P) (.node (o128 P) (.node (o256 P) (.node (amI r1_56) .nil .nil) .nil) (.node (amF P r1_13) (.node (amF P r2_27) .nil .nil) .nil)) (.node (o192 P) (.node (amF P r0_15) (.node (amI r2_6) .nil .nil) .nil) (.node (amD P r1_35) .nil .nil))) (.node (o96 P) (.node (o160 P) (.node (amD P r0_5) (.node (amD P r1_67) .nil .nil) .nil) (.node (amI r1_24) (.node (amI r2_38) .nil .nil) .nil)) (.node (o224 P) (.node (amD P r1_3) (.node (amD P r2_17) .nil .nil) .nil) (.node (amF P r1_45) .nil .nil)))) (.node (o48 P) (.node (o80 P) (.node (o144 P) (.node (o272 P) (.node (amF P r1_61) .nil .nil) .nil) (.node (amD P r1_19) (.node (amD P r2_33) .nil .nil) .nil)) (.node (o208 P) (.node (amD P r0_21) (.node (amF P r2_11) .nil .nil) .nil) (.node (amI r1_40) .nil .nil))) (.node (o112 P) (.node (o176 P) (.node (amI r0_10) (.node (amD P r2_1) .nil .nil) .nil) (.node (amF P r1_29) .nil .nil)) (.node (o240 P) (.node (amI r1_8) (.node (amI r2_22) .nil .nil) .nil) (.node (amD P r1_51) .nil .nil))))) (.node (o24 P) (.node (o40 P) (.node (o72 P) (.node (o136 P) (.node (o264 P) (.node (amD P r1_59) .nil .nil) .nil) (.node (amI r1_16) (.node (amI r2_30) .nil .nil) .nil)) (.node (o200 P) (.node (amI r0_18) (.node (amD P r2_9) .nil .nil) .nil) (.node (amF P r1_37) .nil .nil))) (.node (o104 P) (.node (o168 P) (.node (amF P r0_7) (.node (amF P r1_69) .nil .nil) .nil) (.node (amD P r1_27) .nil .nil)) (.node (o232 P) (.node (amF P r1_5) (.node (amF P r2_19) .nil .nil) .nil) (.node (amI r1_48) .nil .nil)))) (.node (o56 P) (.node (o88 P) (.node (o152 P) (.node (amI r0_2) (.node (amI r1_64) .nil .nil) .nil) (.node (amF P r1_21) (.node (amF P r2_35) .nil .nil) .nil)) (.node (o216 P) (.node (amI r1_0) (.node (amI r2_14) .nil .nil) .nil) (.node (amD P r1_43) .nil .nil))) (.node (o120 P) (.node (o184 P) (.node (amD P r0_13) (.node (amF P r2_3) .nil .nil) .nil) (.node (amI r1_32) .nil .nil)) (.node (o248 P) (.node (amD P r1_11) (.node (amD P r2_25) .nil .nil) .nil) (.node (amF P r1_53) .nil .nil)))))) (.node (o12v4 P) (.node (o20 P) (.node (o36 P) (.node (o68 P) (.node (o132 P) (.node (o260 P) (.node (amF P r1_57) .nil .nil) .nil) (.node (amD P r1_15) (.node (amD P r2_29) .nil .nil) .nil)) (.node (o196 P) (.node (amD P r0_17) (.node (amF P r2_7) .nil .nil) .nil) (.node (amI r1_36) .nil .nil))) (.node (o100 P) (.node (o164 P) (.node (amI r0_6) (.node (amI r1_68) .nil .nil) .nil) (.node (amF P r1_25) (.node (amF P r2_39) .nil .nil) .nil)) (.node (o228 P) (.node (amI r1_4) (.node (amI r2_18) .nil .nil) .nil) (.node (amD P r1_47) .nil .nil)))) (.node (o52 P) (.node (o84 P) (.node (o148 P) (.node (amD P r0_1) (.node (amD P r1_63) .nil .nil) .nil) (.node (amI r1_20) (.node (amI r2_34) .nil .nil) .nil)) (.node (o212 P) (.node (amI r0_22) (.node (amD P r2_13) .nil .nil) .nil) (.node (amF P r1_41) .nil .nil))) (.node (o116 P) (.node (o180 P) (.node (amF P r0_11) (.node (amI r2_2) .nil .nil) .nil) (.node (amD P r1_31) .nil .nil)) (.node (o244 P) (.node (amF P r1_9) (.node (amF P r2_23) .nil .nil) .nil) (.node (amI r1_52) .nil .nil))))) (.node (o28 P) (.node (o44 P) (.node (o76 P) (.node (o140 P) (.node (o268 P) (.node (amI r1_60) .nil .nil) .nil) (.node (amF P r1_17) (.node (amF P r2_31) .nil .nil) .nil)) (.node (o204 P) (.node (amF P r0_19) (.node (amI r2_10) .nil .nil) .nil) (.node (amD P r1_39) .nil .nil))) (.node (o108 P) (.node (o172 P) (.node (amD P r0_9) (.node (o556 P) .nil .nil) .nil) (.node (amI r1_28) .nil .nil)) (.node (o236 P) (.node (amD P r1_7) (.node (amD P r2_21) .nil .nil) .nil) (.node (amF P r1_49) .nil .nil)))) (.node (o60 P) (.node (o92 P) (.node (o156 P) (.node (amF P r0_3) (.node (amF P r1_65) .nil .nil) .nil) (.node (amD P r1_23) (.node (amD P r2_37) .nil .nil) .nil)) (.node (o220 P) (.node (amF P r1_1) (.node (amF P r2_15) .nil .nil) .nil) (.node (amI r1_44) .nil .nil))) (.node (o124 P) (.node (o188 P) (.node (amI r0_14) (.node (amD P r2_5) .nil .nil) .nil) (.node (amF P r1_33) .nil .nil)) (.node (o252 P) (.node (amI r1_12) (.node (amI r2_26) .nil .nil) .nil) (.node (amD P r1_55) .nil .nil))))))) (.node (boot_o_6 P) (.node (boot_o_10 P) (.node (o18 P) (.node (o34 P) (.node (o66 P) (.node (o130 P) (.node (o258 P) (.node (amD P r1_57) .nil .nil) .nil) (.node (amI r1_14) (.node (amI r2_28) .nil .nil) .nil)) (.node (o194 P) (.node (amI r0_16) (.node (amD P r2_7) .nil .nil) .nil) (.node (amF P r1_35) .nil .nil))) (.node (o98 P) (.node (o162 P) (.node (amF P r0_5) (.node (amF P r1_67) .nil .nil) .nil) (.node (amD P r1_25) (.node (amD P r2_39) .nil .nil) .nil)) (.node (o226 P) (.node (amF P r1_3) (.node (amF P r2_17) .nil .nil) .nil) (.node (amI r1_46) .nil .nil)))) (.node (o50 P) (.node (o82 P) (.node (o146 P) (.node (amI r0_0) (.node (amI r1_62) .nil .nil) .nil) (.node (amF P r1_19) (.node (amF P r2_33) .nil .nil) .nil)) (.node (o210 P) (.node (amF P r0_21) (.node (amI r2_12) .nil .nil) .nil) (.node (amD P r1_41) .nil .nil))) (.node (o114 P) (.node (o178 P) (.node (amD P r0_11) (.node (amF P r2_1) .nil .nil) .nil) (.node (amI r1_30) .nil .nil)) (.node (o242 P) (.node (amD P r1_9) (.node (amD P r2_23) .nil .nil) .nil) (.node (amF P r1_51) .nil .nil))))) (.node (o26 P) (.node (o42 P) (.node (o74 P) (.node (o138 P) (.node (o266 P) (.node (amF P r1_59) .nil .nil) .nil) (.node (amD P r1_17) (.node (amD P r2_31) .nil .nil) .nil)) (.node (o202 P) (.node (amD P r0_19) (.node (amF P r2_9) .nil .nil) .nil) (.node (amI r1_38) .nil .nil))) (.node (o106 P) (.node (o170 P) (.node (amI r0_8) (.node (amI r1_70) .nil .nil) .nil) (.node (amF P r1_27) .nil .nil)) (.node (o234 P) (.node (amI r1_6) (.node (amI r2_20) .nil .nil) .nil) (.node (amD P r1_49) .nil .nil)))) (.node (o58 P) (.node (o90 P) (.node (o154 P) (.node (amD P r0_3) (.node (amD P r1_65) .nil .nil) .nil) (.node (amI r1_22) (.node (amI r2_36) .nil .nil) .nil)) (.node (o218 P) (.node (amD P r1_1) (.node (amD P r2_15) .nil .nil) .nil) (.node (amF P r1_43) .nil .nil))) (.node (o122 P) (.node (o186 P) (.node (amF P r0_13) (.node (amI r2_4) .nil .nil) .nil) (.node (amD P r1_33) .nil .nil)) (.node (o250 P) (.node (amF P r1_11) (.node (amF P r2_25) .nil .nil) .nil) (.node (amI r1_54) .nil .nil)))))) (.node (o14 P) (.node (o22 P) (.node (o38 P) (.node (o70 P) (.node (o134 P) (.node (o262 P) (.node (amI r1_58) .nil .nil) .nil) (.node (amF P r1_15) (.node (amF P r2_29) .nil .nil) .nil)) (.node (o198 P) (.node (amF P r0_17) (.node (amI r2_8) .nil .nil) .nil) (.node (amD P r1_37) .nil .nil))) (.node (o102 P) (.node (o166 P) (.node (amD P r0_7) (.node (amD P r1_69) .nil .nil) .nil) (.node (amI r1_26) .nil .nil)) (.node (oSet P) (.node (amD P r1_5) (.node (amD P r2_19) .nil .nil) .nil) (.node (amF P r1_47) .nil .nil)))) (.node (o54 P) (.node (o86 P) (.node (o150 P) (.node (amF P r0_1) (.node (amF P r1_63) .nil .nil) .nil) (.node (amD P r1_21) (.node (amD P r2_35) .nil .nil) .nil)) (.node (o214 P) (.node (o342 P) (.node (amF P r2_13) .nil .nil) .nil) (.node (amI r1_42) .nil .nil))) (.node (o118 P) (.node (o182 P) (.node (amI r0_12) (.node (amD P r2_3) .nil .nil) .nil) (.node (amF P r1_31) .nil .nil)) (.node (o246 P) (.node (amI r1_10) (.node (amI r2_24) .nil .nil) .nil) (.node (amD P r1_53) .nil .nil))))) (.node (o30 P) (.node (o46 P) (.node (o78 P) (.node (o142 P) (.node (o270 P) (.node (amD P r1_61) .nil .nil) .nil) (.node (amI r1_18) (.node (amI r2_32) .nil .nil) .nil)) (.node (o206 P) (.node (amI r0_20) (.node (amD P r2_11) .nil .nil) .nil) (.node (amF P r1_39) .nil .nil))) (.node (o110 P) (.node (o174 P) (.node (amF P r0_9) (.node (amI r2_0) .nil .nil) .nil) (.node (amD P r1_29) .nil .nil)) (.node (o238 P) (.node (amF P r1_7) (.node (amF P r2_21) .nil .nil) .nil) (.node (amI r1_50) .nil .nil)))) (.node (o62 P) (.node (o94 P) (.node (o158 P) (.node (amI r0_4) (.node (amI r1_66) .nil .nil) .nil) (.node (amF P r1_23) (.node (amF P r2_37) .nil .nil) .nil)) (.node (o222 P) (.node (amI r1_2) (.node (amI r2_16) .nil .nil) .nil) (.node (amD P r1_45) .nil .nil))) (.node (o126 P) (.node (o190 P) (.node (amD P r0_15) (.node (amF P r2_5) .nil .nil) .nil) (.node (amI r1_34) .nil .nil)) (.node (o254 P) (.node (amD P r1_13) (.node (amD P r2_27) .nil .nil) .nil) (.node (amF P r1_55) .nil .nil)))))))))
noncomputable def SE11 (w : World) (os : OsState) : SharedT := ⟨TE11 w.params, 678, {}, #[], boot_drawn, 2362, os⟩
noncomputable def TE12 (P : Params) : BT := (.node (boot_o_0 P) (.node (boot_o_1 P) (.node (o3v5 P) (.node (boot_o_7 P) (.node (o15 P) (.node (o31 P) (.node (o63 P) (.node (o127 P) (.node (o255 P) (.node (amD P r1_56) .nil .nil) (.node (amF P r3_29) .nil .nil)) (.node (amI r1_13) (.node (amI r2_27) .nil .nil) .nil)) (.node (o191 P) (.node (amI r0_15) (.node (amD P r2_6) .nil .nil) (.node (amD P r3_51) .nil .nil)) (.node (amF P r1_34) (.node (amI r3_8) .nil .nil) .nil))) (.node (o95 P) (.node (o159 P) (.node (amF P r0_4) (.node (amF P r1_66) .nil .nil) (.node (amI r3_40) .nil .nil)) (.node (amD P r1_24) (.node (amD P r2_38) .nil .nil) .nil)) (.node (o223 P) (.node (amF P r1_2) (.node (amF P r2_16) .nil .nil) .nil) (.node (amI r1_45) (.node (amD P r3_19) .nil .nil) .nil)))) (.node (o47 P) (.node (o79 P) (.node (o143 P) (.node (o271 P) (.node (amI r1_61) .nil .nil) (.node (amD P r3_35) .nil .nil)) (.node (amF P r1_18) (.node (amF P r2_32) .nil .nil) .nil)) (.node (o207 P) (.node (amF P r0_20) (.node (amI r2_11) .nil .nil) (.node (amI r3_56) .nil .nil)) (.node (amD P r1_40) (.node (amF P r3_13) .nil .nil) .nil))) (.node (o111 P) (.node (o175 P) (.node (amD P r0_10) (.node (amF P r2_0) .nil .nil) (.node (amF P r3_45) .nil .nil)) (.node (amI r1_29) (.node (amD P r3_3) .nil .nil) .nil)) (.node (o239 P) (.node (amD P r1_8) (.node (amD P r2_22) .nil .nil) .nil) (.node (amF P r1_50) (.node (amI r3_24) .nil .nil) .nil))))) (.node (o23 P) (.node (o39 P) (.node (o71 P) (.node (o135 P) (.node (o263 P) (.node (amF P r1_58) .nil .nil) (.node (amI r3_32) .nil .nil)) (.node (amD P r1_16) (.node (amD P r2_30) .nil .nil) .nil)) (.node (o199 P) (.node (amD P r0_18) (.node (amF P r2_8) .nil .nil) (.node (amF P r3_53) .nil .nil)) (.node (amI r1_37) (.node (amD P r3_11) .nil .nil) .nil))) (.node (o103 P) (.node (o167 P) (.node (amI r0_7) (.node (amI r1_69) .nil .nil) (.node (amD P r3_43) .nil .nil)) (.node (amF P r1_26) (.node (amI r3_0) .nil .nil) .nil)) (.node (o231 P) (.node (amI r1_5) (.node (amI r2_19) .nil .nil) .nil) (.node (amD P r1_48) (.node (amF P r3_21) .nil .nil) .nil)))) (.node (o55 P) (.node (o87 P) (.node (o151 P) (.node (amD P r0_2) (.node (amD P r1_64) .nil .nil) (.node (amF P r3_37) .nil .nil)) (.node (amI r1_21) (.node (amI r2_35) .nil .nil) .nil)) (.node (o215 P) (.node (amD P r1_0) (.node (amD P r2_14) .nil .nil) .nil) (.node (amF P r1_42) (.node (amI r3_16) .nil .nil) .nil))) (.node (o119 P) (.node (o183 P) (.node (amF P r0_12) (.node (amI r2_3) .nil .nil) (.node (amI r3_48) .nil .nil)) (.node (amD P r1_32) (.node (amF P r3_5) .nil .nil) .nil)) (.node (o247 P) (.node (amF P r1_10) (.node (amF P r2_24) .nil .nil) .nil) (.node (amI r1_53) (.node (amD P r3_27) .nil .nil) .nil)))))) (.node (o11 P) (.node (o19 P) (.node (o35 P) (.node (o67 P) (.node (o131 P) (.node (o259 P) (.node (amI r1_57) .nil .nil) (.node (amD P r3_31) .nil .nil)) (.node (amF P r1_14) (.node (amF P r2_28) .nil .nil) .nil)) (.node (o195 P) (.node (amF P r0_16) (.node (amI r2_7) .nil .nil) (.node (amI r3_52) .nil .nil)) (.node (amD P r1_36) (.node (amF P r3_9) .nil .nil) .nil))) (.node (o99 P) (.node (o163 P) (.node (amD P r0_6) (.node (amD P r1_68) .nil .nil) (.node (amF P r3_41) .nil .nil)) (.node (amI r1_25) (.node (amI r2_39) .nil .nil) .nil)) (.node (o227v6 P) (.node (amD P r1_4) (.node (amD P r2_18) .nil .nil) .nil) (.node (amF P r1_46) (.node (amI r3_20) .nil .nil) .nil)))) (.node (o51 P) (.node (o83 P) (.node (o147 P) (.node (amF P r0_0) (.node (amF P r1_62) .nil .nil) (.node (amI r3_36) .nil .nil)) (.node (amD P r1_20) (.node (amD P r2_34) .nil .nil) .nil)) (.node (o211 P) (.node (amD P r0_22) (.node (amF P r2_12) .nil .nil) .nil) (.node (amI r1_41) (.node (amD P r3_15) .nil .nil) .nil))) (.node (o115 P) (.node (o179 P) (.node (amI r0_11) (.node (amD P r2_2) .nil .nil) (.node (amD P r3_47) .nil .nil)) (.node (amF P r1_30) (.node (amI r3_4) .nil .nil) .nil)) (.node (o243 P) (.node (amI r1_9) (.node (amI r2_23) .nil .nil) .nil) (.node (amD P r1_52) (.node (amF P r3_25) .nil .nil) .nil))))) (.node (o27 P) (.node (o43 P) (.node (o75 P) (.node (o139 P) (.node (o267 P) (.node (amD P r1_60) .nil .nil) (.node (amF P r3_33) .nil .nil)) (.node (amI r1_17) (.node (amI r2_31) .nil .nil) .nil)) (.node (o203 P) (.node (amI r0_19) (.node (amD P r2_10) .nil .nil) (.node (amD P r3_55) .nil .nil)) (.node (amF P r1_38) (.node (amI r3_12) .nil .nil) .nil))) (.node (o107 P) (.node (o171 P) (.node (amF P r0_8) (.node (amF P r1_70) .nil .nil) (.node (amI r3_44) .nil .nil)) (.node (amD P r1_28) (.node (amF P r3_1) .nil .nil) .nil)) (.node (o235 P) (.node (amF P r1_6) (.node (amF P r2_20) .nil .nil) .nil) (.node (amI r1_49) (.node (amD P r3_23) .nil .nil) .nil)))) (.node (o59 P) (.node (o91 P) (.node (o155 P) (.node (amI r0_3) (.node (amI r1_65) .nil .nil) (.node (amD P r3_39) .nil .nil)) (.node (amF P r1_22) (.node (amF P r2_36) .nil .nil) .nil)) (.node (o219 P) (.node (amI r1_1) (.node (amI r2_15) .nil .nil) .nil) (.node (amD P r1_44) (.node (amF P r3_17) .nil .nil) .nil))) (.node (o123 P) (.node (o187 P) (.node (amD P r0_14) (.node (amF P r2_4) .nil .nil) (.node (amF P r3_49) .nil .nil)) (.node (amI r1_33) (.node (amD P r3_7) .nil .nil) .nil)) (.node (o251 P) (.node (amD P r1_12) (.node (amD P r2_26) .nil .nil) .nil) (.node (amF P r1_54) (.node (amI r3_28) .nil .nil) .nil))))))) (.node (boot_o_5 P) (.node (boot_o_9 P) (.node (o17 P) (.node (o33 P) (.node (o65 P) (.node (o129 P) (.node (o257 P) (.node (amF P r1_56) .nil .nil) (.node (amI r3_30) .nil .nil)) (.node (amD P r1_14) (.node (amD P r2_28) .nil .nil) .nil)) (.node (o193 P) (.node (amD P r0_16) (.node (amF P r2_6) .nil .nil) (.node (amF P r3_51) .nil .nil)) (.node (amI r1_35) (.node (amD P r3_9) .nil .nil) .nil))) (.node (o97 P) (.node (o161 P) (.node (amI r0_5) (.node (amI r1_67) .nil .nil) (.node (amD P r3_41) .nil .nil)) (.node (amF P r1_24) (.node (amF P r2_38) .nil .nil) .nil)) (.node (o225v13 P) (.node (amI r1_3) (.node (amI r2_17) .nil .nil) .nil) (.node (amD P r1_46) (.node (amF P r3_19) .nil .nil) .nil)))) (.node (o49 P) (.node (o81 P) (.node (o145 P) (.node (amD P r0_0) (.node (amD P r1_62) .nil .nil) (.node (amF P r3_35) .nil .nil)) (.node (amI r1_19) (.node (amI r2_33) .nil .nil) .nil)) (.node (o209 P) (.node (amI r0_21) (.node (amD P r2_12) .nil .nil) (.node (o849 P) .nil .nil)) (.node (amF P r1_40) (.node (amI r3_14) .nil .nil) .nil))) (.node (o113 P) (.node (o177 P) (.node (amF P r0_10) (.node (amI r2_1) .nil .nil) (.node (amI r3_46) .nil .nil)) (.node (amD P r1_30) (.node (amF P r3_3) .nil .nil) .nil)) (.node (o241 P) (.node (amF P r1_8) (.node (amF P r2_22) .nil .nil) .nil) (.node (amI r1_51) (.node (amD P r3_25) .nil .nil) .nil))))) (.node (o25 P) (.node (o41 P) (.node (o73 P) (.node (o137 P) (.node (o265 P) (.node (amI r1_59) .nil .nil) (.node (amD P r3_33) .nil .nil)) (.node (amF P r1_16) (.node (amF P r2_30) .nil .nil) .nil)) (.node (o201 P) (.node (amF P r0_18) (.node (amI r2_9) .nil .nil) (.node (amI r3_54) .nil .nil)) (.node (amD P r1_38) (.node (amF P r3_11) .nil .nil) .nil))) (.node (o105 P) (.node (o169 P) (.node (amD P r0_8) (.node (amD P r1_70) .nil .nil) (.node (amF P r3_43) .nil .nil)) (.node (amI r1_27) (.node (amD P r3_1) .nil .nil) .nil)) (.node (o233 P) (.node (amD P r1_6) (.node (amD P r2_20) .nil .nil) .nil) (.node (amF P r1_48) (.node (amI r3_22) .nil .nil) .nil)))) (.node (o57 P) (.node (o89 P) (.node (o153 P) (.node (amF P r0_2) (.node (amF P r1_64) .nil .nil) (.node (amI r3_38) .nil .nil)) (.node (amD P r1_22) (.node (amD P r2_36) .nil .nil) .nil)) (.node (o217 P) (.node (amF P r1_0) (.node (amF P r2_14) .nil .nil) .nil) (.node (amI r1_43) (.node (amD P r3_17) .nil .nil) .nil))) (.node (o121 P) (.node (o185 P) (.node (amI r0_13) (.node (amD P r2_4) .nil .nil) (.node (amD P r3_49) .nil .nil)) (.node (amF P r1_32) (.node (amI r3_6) .nil .nil) .nil)) (.node (o249 P) (.node (amI r1_11) (.node (amI r2_25) .nil .nil) .nil) (.node (amD P r1_54) (.node (amF P r3_27) .nil .nil) .nil)))))) (.node (o13 P) (.node (o21 P) (.node (o37 P) (.node (o69 P) (.node (o133 P) (.node (o261 P) (.node (amD P r1_58) .nil .nil) (.node (amF P r3_31) .nil .nil)) (.node (amI r1_15) (.node (amI r2_29) .nil .nil) .nil)) (.node (o197 P) (.node (amI r0_17) (.node (amD P r2_8) .nil .nil) (.node (amD P r3_53) .nil .nil)) (.node (amF P r1_36) (.node (amI r3_10) .nil .nil) .nil))) (.node (o101 P) (.node (o165 P) (.node (amF P r0_6) (.node (amF P r1_68) .nil .nil) (.node (amI r3_42) .nil .nil)) (.node (amD P r1_26) (.node (o677 P) .nil .nil) .nil)) (.node (o229 P) (.node (amF P r1_4) (.node (amF P r2_18) .nil .nil) .nil) (.node (amI r1_47) (.node (amD P r3_21) .nil .nil) .nil)))) (.node (o53 P) (.node (o85 P) (.node (o149 P) (.node (amI r0_1) (.node (amI r1_63) .nil .nil) (.node (amD P r3_37) .nil .nil)) (.node (amF P r1_20) (.node (amF P r2_34) .nil .nil) .nil)) (.node (o213 P) (.node (amF P r0_22) (.node (amI r2_13) .nil .nil) .nil) (.node (amD P r1_42) (.node (amF P r3_15) .nil .nil) .nil))) (.node (o117 P) (.node (o181 P) (.node (amD P r0_12) (.node (amF P r2_2) .nil .nil) (.node (amF P r3_47) .nil .nil)) (.node (amI r1_31) (.node (amD P r3_5) .nil .nil) .nil)) (.node (o245 P) (.node (amD P r1_10) (.node (amD P r2_24) .nil .nil) .nil) (.node (amF P r1_52) (.node (amI r3_26) .nil .nil) .nil))))) (.node (o29 P) (.node (o45 P) (.node (o77 P) (.node (o141 P) (.node (o269 P) (.node (amF P r1_60) .nil .nil) (.node (amI r3_34) .nil .nil)) (.node (amD P r1_18) (.node (amD P r2_32) .nil .nil) .nil)) (.node (o205 P) (.node (amD P r0_20) (.node (amF P r2_10) .nil .nil) (.node (amF P r3_55) .nil .nil)) (.node (amI r1_39) (.node (amD P r3_13) .nil .nil) .nil))) (.node (o109 P) (.node (o173 P) (.node (amI r0_9) (.node (amD P r2_0) .nil .nil) (.node (amD P r3_45) .nil .nil)) (.node (amF P r1_28) (.node (amI r3_2) .nil .nil) .nil)) (.node (o237 P) (.node (amI r1_7) (.node (amI r2_21) .nil .nil) .nil) (.node (amD P r1_50) (.node (amF P r3_23) .nil .nil) .nil)))) (.node (o61 P) (.node (o93 P) (.node (o157 P) (.node (amD P r0_4) (.node (amD P r1_66) .nil .nil) (.node (amF P r3_39) .nil .nil)) (.node (amI r1_23) (.node (amI r2_37) .nil .nil) .nil)) (.node (o221 P) (.node (amD P r1_2) (.node (amD P r2_16) .nil .nil) .nil) (.node (amF P r1_44) (.node (amI r3_18) .nil .nil) .nil))) (.node (o125 P) (.node (o189 P) (.node (amF P r0_14) (.node (amI r2_5) .nil .nil) (.node (amI r3_50) .nil .nil)) (.node (amD P r1_34) (.node (amF P r3_7) .nil .nil) .nil)) (.node (o253 P) (.node (amF P r1_12) (.node (amF P r2_26) .nil .nil) .nil) (.node (amI r1_55) (.node (amD P r3_29) .nil .nil) .nil)))))))) (.node (boot_o_2 P) (.node (boot_o_4 P) (.node (boot_o_8 P) (.node (o16 P) (.node (o32 P) (.node (o64 P) (.node (o128 P) (.node (o256 P) (.node (amI r1_56) .nil .nil) (.node (amD P r3_30) .nil .nil)) (.node (amF P r1_13) (.node (amF P r2_27) .nil .nil) .nil)) (.node (o192 P) (.node (amF P r0_15) (.node (amI r2_6) .nil .nil) (.node (amI r3_51) .nil .nil)) (.node (amD P r1_35) (.node (amF P r3_8) .nil .nil) .nil))) (.node (o96 P) (.node (o160 P) (.node (amD P r0_5) (.node (amD P r1_67) .nil .nil) (.node (amF P r3_40) .nil .nil)) (.node (amI r1_24) (.node (amI r2_38) .nil .nil) .nil)) (.node (o224 P) (.node (amD P r1_3) (.node (amD P r2_17) .nil .nil) .nil) (.node (amF P r1_45) (.node (amI r3_19) .nil .nil) .nil)))) (.node (o48 P) (.node (o80 P) (.node (o144 P) (.node (o272 P) (.node (amF P r1_61) .nil .nil) (.node (amI r3_35) .nil .nil)) (.node (amD P r1_19) (.node (amD P r2_33) .nil .nil) .nil)) (.node (o208 P) (.node (amD P r0_21) (.node (amF P r2_11) .nil .nil) (.node (amF P r3_56) .nil .nil)) (.node (amI r1_40) (.node (amD P r3_14) .nil .nil) .nil))) (.node (o112 P) (.node (o176 P) (.node (amI r0_10) (.node (amD P r2_1) .nil .nil) (.node (amD P r3_46) .nil .nil)) (.node (amF P r1_29) (.node (amI r3_3) .nil .nil) .nil)) (.node (o240 P) (.node (amI r1_8) (.node (amI r2_22) .nil .nil) .nil) (.node (amD P r1_51) (.node (amF P r3_24) .nil .nil) .nil))))) (.node (o24 P) (.node (o40 P) (.node (o72 P) (.node (o136 P) (.node (o264 P) (.node (amD P r1_59) .nil .nil) (.node (amF P r3_32) .nil .nil)) (.node (amI r1_16) (.node (amI r2_30) .nil .nil) .nil)) (.node (o200 P) (.node (amI r0_18) (.node (amD P r2_9) .nil .nil) (.node (amD P r3_54) .nil .nil)) (.node (amF P r1_37) (.node (amI r3_11) .nil .nil) .nil))) (.node (o104 P) (.node (o168 P) (.node (amF P r0_7) (.node (amF P r1_69) .nil .nil) (.node (amI r3_43) .nil .nil)) (.node (amD P r1_27) (.node (amF P r3_0) .nil .nil) .nil)) (.node (o232 P) (.node (amF P r1_5) (.node (amF P r2_19) .nil .nil) .nil) (.node (amI r1_48) (.node (amD P r3_22) .nil .nil) .nil)))) (.node (o56 P) (.node (o88 P) (.node (o152 P) (.node (amI r0_2) (.node (amI r1_64) .nil .nil) (.node (amD P r3_38) .nil .nil)) (.node (amF P r1_21) (.node (amF P r2_35) .nil .nil) .nil)) (.node (o216 P) (.node (amI r1_0) (.node (amI r2_14) .nil .nil) .nil) (.node (amD P r1_43) (.node (amF P r3_16) .nil .nil) .nil))) (.node (o120 P) (.node (o184 P) (.node (amD P r0_13) (.node (amF P r2_3) .nil .nil) (.node (amF P r3_48) .nil .nil)) (.node (amI r1_32) (.node (amD P r3_6) .nil .nil) .nil)) (.node (o248 P) (.node (amD P r1_11) (.node (amD P r2_25) .nil .nil) .nil) (.node (amF P r1_53) (.node (amI r3_27) .nil .nil) .nil)))))) (.node (o12v4 P) (.node (o20 P) (.node (o36 P) (.node (o68 P) (.node (o132 P) (.node (o260 P) (.node (amF P r1_57) .nil .nil) (.node (amI r3_31) .nil .nil)) (.node (amD P r1_15) (.node (amD P r2_29) .nil .nil) .nil)) (.node (o196 P) (.node (amD P r0_17) (.node (amF P r2_7) .nil .nil) (.node (amF P r3_52) .nil .nil)) (.node (amI r1_36) (.node (amD P r3_10) .nil .nil) .nil))) (.node (o100 P) (.node (o164 P) (.node (amI r0_6) (.node (amI r1_68) .nil .nil) (.node (amD P r3_42) .nil .nil)) (.node (amF P r1_25) (.node (amF P r2_39) .nil .nil) .nil)) (.node (o228 P) (.node (amI r1_4) (.node (amI r2_18) .nil .nil) .nil) (.node (amD P r1_47) (.node (amF P r3_20) .nil .nil) .nil)))) (.node (o52 P) (.node (o84 P) (.node (o148 P) (.node (amD P r0_1) (.node (amD P r1_63) .nil .nil) (.node (amF P r3_36) .nil .nil)) (.node (amI r1_20) (.node (amI r2_34) .nil .nil) .nil)) (.node (o212 P) (.node (amI r0_22) (.node (amD P r2_13) .nil .nil) .nil) (.node (amF P r1_41) (.node (amI r3_15) .nil .nil) .nil))) (.node (o116 P) (.node (o180 P) (.node (amF P r0_11) (.node (amI r2_2) .nil .nil) (.node (amI r3_47) .nil .nil)) (.node (amD P r1_31) (.node (amF P r3_4) .nil .nil) .nil)) (.node (o244 P) (.node (amF P r1_9) (.node (amF P r2_23) .nil .nil) .nil) (.node (amI r1_52) (.node (amD P r3_26) .nil .nil) .nil))))) (.node (o28 P) (.node (o44 P) (.node (o76 P) (.node (o140 P) (.node (o268 P) (.node (amI r1_60) .nil .nil) (.node (amD P r3_34) .nil .nil)) (.node (amF P r1_17) (.node (amF P r2_31) .nil .nil) .nil)) (.node (o204 P) (.node (amF P r0_19) (.node (amI r2_10) .nil .nil) (.node (amI r3_55) .nil .nil)) (.node (amD P r1_39) (.node (amF P r3_12) .nil .nil) .nil))) (.node (o108 P) (.node (o172 P) (.node (amD P r0_9) (.node (o556 P) .nil .nil) (.node (amF P r3_44) .nil .nil)) (.node (amI r1_28) (.node (amD P r3_2) .nil .nil) .nil)) (.node (o236 P) (.node (amD P r1_7) (.node (amD P r2_21) .nil .nil) .nil) (.node (amF P r1_49) (.node (amI r3_23) .nil .nil) .nil)))) (.node (o60 P) (.node (o92 P) (.node (o156 P) (.node (amF P r0_3) (.node (amF P r1_65) .nil .nil) (.node (amI r3_39) .nil .nil)) (.node (amD P r1_23) (.node (amD P r2_37) .nil .nil) .nil)) (.node (o220 P) (.node (amF P r1_1) (.node (amF P r2_15) .nil .nil) .nil) (.node (amI r1_44) (.node (amD P r3_18) .nil .nil) .nil))) (.node (o124 P) (.node (o188 P) (.node (amI r0_14) (.node (amD P r2_5) .nil .nil) (.node (amD P r3_50) .nil .nil)) (.node (amF P r1_33) (.node (amI r3_7) .nil .nil) .nil)) (.node (o252 P) (.node (amI r1_12) (.node (amI r2_26) .nil .nil) .nil) (.node (amD P r1_55) (.node (amF P r3_28) .nil .nil) .nil))))))) (.node (boot_o_6 P) (.node (boot_o_10 P) (.node (o18 P) (.node (o34 P) (.node (o66 P) (.node (o130 P) (.node (o258 P) (.node (amD P r1_57) .nil .nil) (.node (amF P r3_30) .nil .nil)) (.node (amI r1_14) (.node (amI r2_28) .nil .nil) .nil)) (.node (o194 P) (.node (amI r0_16) (.node (amD P r2_7) .nil .nil) (.node (amD P r3_52) .nil .nil)) (.node (amF P r1_35) (.node (amI r3_9) .nil .nil) .nil))) (.node (o98 P) (.node (o162 P) (.node (amF P r0_5) (.node (amF P r1_67) .nil .nil) (.node (amI r3_41) .nil .nil)) (.node (amD P r1_25) (.node (amD P r2_39) .nil .nil) .nil)) (.node (o226 P) (.node (amF P r1_3) (.node (amF P r2_17) .nil .nil) .nil) (.node (amI r1_46) (.node (amD P r3_20) .nil .nil) .nil)))) (.node (o50 P) (.node (o82 P) (.node (o146 P) (.node (amI r0_0) (.node (amI r1_62) .nil .nil) (.node (amD P r3_36) .nil .nil)) (.node (amF P r1_19) (.node (amF P r2_33) .nil .nil) .nil)) (.node (o210 P) (.node (amF P r0_21) (.node (amI r2_12) .nil .nil) .nil) (.node (amD P r1_41) (.node (amF P r3_14) .nil .nil) .nil))) (.node (o114 P) (.node (o178 P) (.node (amD P r0_11) (.node (amF P r2_1) .nil .nil) (.node (amF P r3_46) .nil .nil)) (.node (amI r1_30) (.node (amD P r3_4) .nil .nil) .nil)) (.node (o242 P) (.node (amD P r1_9) (.node (amD P r2_23) .nil .nil) .nil) (.node (amF P r1_51) (.node (amI r3_25) .nil .nil) .nil))))) (.node (o26 P) (.node (o42 P) (.node (o74 P) (.node (o138 P) (.node (o266 P) (.node (amF P r1_59) .nil .nil) (.node (amI r3_33) .nil .nil)) (.node (amD P r1_17) (.node (amD P r2_31) .nil .nil) .nil)) (.node (o202 P) (.node (amD P r0_19) (.node (amF P r2_9) .nil .nil) (.node (amF P r3_54) .nil .nil)) (.node (amI r1_38) (.node (amD P r3_12) .nil .nil) .nil))) (.node (o106 P) (.node (o170 P) (.node (amI r0_8) (.node (amI r1_70) .nil .nil) (.node (amD P r3_44) .nil .nil)) (.node (amF P r1_27) (.node (amI r3_1) .nil .nil) .nil)) (.node (o234 P) (.node (amI r1_6) (.node (amI r2_20) .nil .nil) .nil) (.node (amD P r1_49) (.node (amF P r3_22) .nil .nil) .nil)))) (.node (o58 P) (.node (o90 P) (.node (o154 P) (.node (amD P r0_3) (.node (amD P r1_65) .nil .nil) (.node (amF P r3_38) .nil .nil)) (.node (amI r1_22) (.node (amI r2_36) .nil .nil) .nil)) (.node (o218 P) (.node (amD P r1_1) (.node (amD P r2_15) .nil .nil) .nil) (.node (amF P r1_43) (.node (amI r3_17) .nil .nil) .nil))) (.node (o122 P) (.node (o186 P) (.node (amF P r0_13) (.node (amI r2_4) .nil .nil) (.node (amI r3_49) .nil .nil)) (.node (amD P r1_33) (.node (amF P r3_6) .nil .nil) .nil)) (.node (o250 P) (.node (amF P r1_11) (.node (amF P r2_25) .nil .nil) .nil) (.node (amI r1_54) (.node (amD P r3_28) .nil .nil) .nil)))))) (.node (o14 P) (.node (o22 P) (.node (o38 P) (.node (o70 P) (.node (o134 P) (.node (o262 P) (.node (amI r1_58) .nil .nil) (.node (amD P r3_32) .nil .nil)) (.node (amF P r1_15) (.node (amF P r2_29) .nil .nil) .nil)) (.node (o198 P) (.node (amF P r0_17) (.node (amI r2_8) .nil .nil) (.node (amI r3_53) .nil .nil)) (.node (amD P r1_37) (.node (amF P r3_10) .nil .nil) .nil))) (.node (o102 P) (.node (o166 P) (.node (amD P r0_7) (.node (amD P r1_69) .nil .nil) (.node (amF P r3_42) .nil .nil)) (.node (amI r1_26) (.node (amD P r3_0) .nil .nil) .nil)) (.node (oSet P) (.node (amD P r1_5) (.node (amD P r2_19) .nil .nil) .nil) (.node (amF P r1_47) (.node (amI r3_21) .nil .nil) .nil)))) (.node (o54 P) (.node (o86 P) (.node (o150 P) (.node (amF P r0_1) (.node (amF P r1_63) .nil .nil) (.node (amI r3_37) .nil .nil)) (.node (amD P r1_21) (.node (amD P r2_35) .nil .nil) .nil)) (.node (o214 P) (.node (o342 P) (.node (amF P r2_13) .nil .nil) .nil) (.node (amI r1_42) (.node (amD P r3_16) .nil .nil) .nil))) (.node (o118 P) (.node (o182 P) (.node (amI r0_12) (.node (amD P r2_3) .nil .nil) (.node (amD P r3_48) .nil .nil)) (.node (amF P r1_31) (.node (amI r3_5) .nil .nil) .nil)) (.node (o246 P) (.node (amI r1_10) (.node (amI r2_24) .nil .nil) .nil) (.node (amD P r1_53) (.node (amF P r3_26) .nil .nil) .nil))))) (.node (o30 P) (.node (o46 P) (.node (o78 P) (.node (o142 P) (.node (o270 P) (.node (amD P r1_61) .nil .nil) (.node (amF P r3_34) .nil .nil)) (.node (amI r1_18) (.node (amI r2_32) .nil .nil) .nil)) (.node (o206 P) (.node (amI r0_20) (.node (amD P r2_11) .nil .nil) (.node (amD P r3_56) .nil .nil)) (.node (amF P r1_39) (.node (amI r3_13) .nil .nil) .nil))) (.node (o110 P) (.node (o174 P) (.node (amF P r0_9) (.node (amI r2_0) .nil .nil) (.node (amI r3_45) .nil .nil)) (.node (amD P r1_29) (.node (amF P r3_2) .nil .nil) .nil)) (.node (o238 P) (.node (amF P r1_7) (.node (amF P r2_21) .nil .nil) .nil) (.node (amI r1_50) (.node (amD P r3_24) .nil .nil) .nil)))) (.node (o62 P) (.node (o94 P) (.node (o158 P) (.node (amI r0_4) (.node (amI r1_66) .nil .nil) (.node (amD P r3_40) .nil .nil)) (.node (amF P r1_23) (.node (amF P r2_37) .nil .nil) .nil)) (.node (o222 P) (.node (amI r1_2) (.node (amI r2_16) .nil .nil) .nil) (.node (amD P r1_45) (.node (amF P r3_18) .nil .nil) .nil))) (.node (o126 P) (.node (o190 P) (.node (amD P r0_15) (.node (amF P r2_5) .nil .nil) (.node (amF P r3_50) .nil .nil)) (.node (amI r1_34) (.node (amD P r3_8) .nil .nil) .nil)) (.node (o254 P) (.node (amD P r1_13) (.node (amD P r2_27) .nil .nil) .nil) (.node (amF P r1_55) (.node (amI r3_29) .nil .nil) .nil)))))))))
noncomputable def SE12 (w : World) (os : OsState) : SharedT := ⟨TE12 w.params, 850, {}, #[], boot_drawn, 3120, os⟩
noncomputable def TF (P : Params) : BT := (.node (boot_o_0 P) (.node (boot_o_1 P) (.node (o3v6 P) (.node (boot_o_7 P) (.node (o15 P) (.node (o31 P) (.node (o63 P) (.node (o127 P) (.node (o255 P) (.node (amD P r1_56) .nil .nil) (.node (amF P r3_29) .nil .nil)) (.node (amI r1_13) (.node (amI r2_27) .nil .nil) .nil)) (.node (o191 P) (.node (amI r0_15) (.node (amD P r2_6) .nil .nil) (.node (amD P r3_51) .nil .nil)) (.node (amF P r1_34) (.node (amI r3_8) .nil .nil) .nil))) (.node (o95 P) (.node (o159 P) (.node (amF P r0_4) (.node (amF P r1_66) .nil .nil) (.node (amI r3_40) .nil .nil)) (.node (amD P r1_24) (.node (amD P r2_38) .nil .nil) .nil)) (.node (o223 P) (.node (amF P r1_2) (.node (amF P r2_16) .nil .nil) .nil) (.node (amI r1_45) (.node (amD P r3_19) .nil .nil) .nil)))) (.node (o47 P) (.node (o79 P) (.node (o143 P) (.node (o271 P) (.node (amI r1_61) .nil .nil) (.node (amD P r3_35) .nil .nil)) (.node (amF P r1_18) (.node (amF P r2_32) .nil .nil) .nil)) (.node (o207 P) (.node (amF P r0_20) (.node (amI r2_11) .nil .nil) (.node (amI r3_56) .nil .nil)) (.node (amD P r1_40) (.node (amF P r3_13) .nil .nil) .nil))) (.node (o111 P) (.node (o175 P) (.node (amD P r0_10) (.node (amF P r2_0) .nil .nil) (.node (amF P r3_45) .nil .nil)) (.node (amI r1_29) (.node (amD P r3_3) .nil .nil) .nil)) (.node (o239 P) (.node (amD P r1_8) (.node (amD P r2_22) .nil .nil) .nil) (.node (amF P r1_50) (.node (amI r3_24) .nil .nil) .nil))))) (.node (o23 P) (.node (o39 P) (.node (o71 P) (.node (o135 P) (.node (o263 P) (.node (amF P r1_58) .nil .nil) (.node (amI r3_32) .nil .nil)) (.node (amD P r1_16) (.node (amD P r2_30) .nil .nil) .nil)) (.node (o199 P) (.node (amD P r0_18) (.node (amF P r2_8) .nil .nil) (.node (amF P r3_53) .nil .nil)) (.node (amI r1_37) (.node (amD P r3_11) .nil .nil) .nil))) (.node (o103 P) (.node (o167 P) (.node (amI r0_7) (.node (amI r1_69) .nil .nil) (.node (amD P r3_43) .nil .nil)) (.node (amF P r1_26) (.node (amI r3_0) .nil .nil) .nil)) (.node (o231 P) (.node (amI r1_5) (.node (amI r2_19) .nil .nil) .nil) (.node (amD P r1_48) (.node (amF P r3_21) .nil .nil) .nil)))) (.node (o55 P) (.node (o87 P) (.node (o151 P) (.node (amD P r0_2) (.node (amD P r1_64) .nil .nil) (.node (amF P r3_37) .nil .nil)) (.node (amI r1_21) (.node (amI r2_35) .nil .nil) .nil)) (.node (o215 P) (.node (amD P r1_0) (.node (amD P r2_14) .nil .nil) .nil) (.node (amF P r1_42) (.node (amI r3_16) .nil .nil) .nil))) (.node (o119 P) (.node (o183 P) (.node (amF P r0_12) (.node (amI r2_3) .nil .nil) (.node (amI r3_48) .nil .nil)) (.node (amD P r1_32) (.node (amF P r3_5) .nil .nil) .nil)) (.node (o247 P) (.node (amF P r1_10) (.node (amF P r2_24) .nil .nil) .nil) (.node (amI r1_53) (.node (amD P r3_27) .nil .nil) .nil)))))) (.node (o11 P) (.node (o19 P) (.node (o35 P) (.node (o67 P) (.node (o131 P) (.node (o259 P) (.node (amI r1_57) .nil .nil) (.node (amD P r3_31) .nil .nil)) (.node (amF P r1_14) (.node (amF P r2_28) .nil .nil) .nil)) (.node (o195 P) (.node (amF P r0_16) (.node (amI r2_7) .nil .nil) (.node (amI r3_52) .nil .nil)) (.node (amD P r1_36) (.node (amF P r3_9) .nil .nil) .nil))) (.node (o99 P) (.node (o163 P) (.node (amD P r0_6) (.node (amD P r1_68) .nil .nil) (.node (amF P r3_41) .nil .nil)) (.node (amI r1_25) (.node (amI r2_39) .nil .nil) .nil)) (.node (o227v6 P) (.node (amD P r1_4) (.node (amD P r2_18) .nil .nil) .nil) (.node (amF P r1_46) (.node (amI r3_20) .nil .nil) .nil)))) (.node (o51 P) (.node (o83 P) (.node (o147 P) (.node (amF P r0_0) (.node (amF P r1_62) .nil .nil) (.node (amI r3_36) .nil .nil)) (.node (amD P r1_20) (.node (amD P r2_34) .nil .nil) .nil)) (.node (o211 P) (.node (amD P r0_22) (.node (amF P r2_12) .nil .nil) (.node (o851 P) .nil .nil)) (.node (amI r1_41) (.node (amD P r3_15) .nil .nil) .nil))) (.node (o115 P) (.node (o179 P) (.node (amI r0_11) (.node (amD P r2_2) .nil .nil) (.node (amD P r3_47) .nil .nil)) (.node (amF P r1_30) (.node (amI r3_4) .nil .nil) .nil)) (.node (o243 P) (.node (amI r1_9) (.node (amI r2_23) .nil .nil) .nil) (.node (amD P r1_52) (.node (amF P r3_25) .nil .nil) .nil))))) (.node (o27 P) (.node (o43 P) (.node (o75 P) (.node (o139 P) (.node (o267 P) (.node (amD P r1_60) .nil .nil) (.node (amF P r3_33) .nil .nil)) (.node (amI r1_17) (.node (amI r2_31) .nil .nil) .nil)) (.node (o203 P) (.node (amI r0_19) (.node (amD P r2_10) .nil .nil) (.node (amD P r3_55) .nil .nil)) (.node (amF P r1_38) (.node (amI r3_12) .nil .nil) .nil))) (.node (o107 P) (.node (o171 P) (.node (amF P r0_8) (.node (amF P r1_70) .nil .nil) (.node (amI r3_44) .nil .nil)) (.node (amD P r1_28) (.node (amF P r3_1) .nil .nil) .nil)) (.node (o235 P) (.node (amF P r1_6) (.node (amF P r2_20) .nil .nil) .nil) (.node (amI r1_49) (.node (amD P r3_23) .nil .nil) .nil)))) (.node (o59 P) (.node (o91 P) (.node (o155 P) (.node (amI r0_3) (.node (amI r1_65) .nil .nil) (.node (amD P r3_39) .nil .nil)) (.node (amF P r1_22) (.node (amF P r2_36) .nil .nil) .nil)) (.node (o219 P) (.node (amI r1_1) (.node (amI r2_15) .nil .nil) .nil) (.node (amD P r1_44) (.node (amF P r3_17) .nil .nil) .nil))) (.node (o123 P) (.node (o187 P) (.node (amD P r0_14) (.node (amF P r2_4) .nil .nil) (.node (amF P r3_49) .nil .nil)) (.node (amI r1_33) (.node (amD P r3_7) .nil .nil) .nil)) (.node (o251 P) (.node (amD P r1_12) (.node (amD P r2_26) .nil .nil) .nil) (.node (amF P r1_54) (.node (amI r3_28) .nil .nil) .nil))))))) (.node (boot_o_5 P) (.node (boot_o_9 P) (.node (o17 P) (.node (o33 P) (.node (o65 P) (.node (o129 P) (.node (o257 P) (.node (amF P r1_56) .nil .nil) (.node (amI r3_30) .nil .nil)) (.node (amD P r1_14) (.node (amD P r2_28) .nil .nil) .nil)) (.node (o193 P) (.node (amD P r0_16) (.node (amF P r2_6) .nil .nil) (.node (amF P r3_51) .nil .nil)) (.node (amI r1_35) (.node (amD P r3_9) .nil .nil) .nil))) (.node (o97 P) (.node (o161 P) (.node (amI r0_5) (.node (amI r1_67) .nil .nil) (.node (amD P r3_41) .nil .nil)) (.node (amF P r1_24) (.node (amF P r2_38) .nil .nil) .nil)) (.node (o225v14 P) (.node (amI r1_3) (.node (amI r2_17) .nil .nil) .nil) (.node (amD P r1_46) (.node (amF P r3_19) .nil .nil) .nil)))) (.node (o49 P) (.node (o81 P) (.node (o145 P) (.node (amD P r0_0) (.node (amD P r1_62) .nil .nil) (.node (amF P r3_35) .nil .nil)) (.node (amI r1_19) (.node (amI r2_33) .nil .nil) .nil)) (.node (o209 P) (.node (amI r0_21) (.node (amD P r2_12) .nil .nil) (.node (o849 P) .nil .nil)) (.node (amF P r1_40) (.node (amI r3_14) .nil .nil) .nil))) (.node (o113 P) (.node (o177 P) (.node (amF P r0_10) (.node (amI r2_1) .nil .nil) (.node (amI r3_46) .nil .nil)) (.node (amD P r1_30) (.node (amF P r3_3) .nil .nil) .nil)) (.node (o241 P) (.node (amF P r1_8) (.node (amF P r2_22) .nil .nil) .nil) (.node (amI r1_51) (.node (amD P r3_25) .nil .nil) .nil))))) (.node (o25 P) (.node (o41 P) (.node (o73 P) (.node (o137 P) (.node (o265 P) (.node (amI r1_59) .nil .nil) (.node (amD P r3_33) .nil .nil)) (.node (amF P r1_16) (.node (amF P r2_30) .nil .nil) .nil)) (.node (o201 P) (.node (amF P r0_18) (.node (amI r2_9) .nil .nil) (.node (amI r3_54) .nil .nil)) (.node (amD P r1_38) (.node (amF P r3_11) .nil .nil) .nil))) (.node (o105 P) (.node (o169 P) (.node (amD P r0_8) (.node (amD P r1_70) .nil .nil) (.node (amF P r3_43) .nil .nil)) (.node (amI r1_27) (.node (amD P r3_1) .nil .nil) .nil)) (.node (o233 P) (.node (amD P r1_6) (.node (amD P r2_20) .nil .nil) .nil) (.node (amF P r1_48) (.node (amI r3_22) .nil .nil) .nil)))) (.node (o57 P) (.node (o89 P) (.node (o153 P) (.node (amF P r0_2) (.node (amF P r1_64) .nil .nil) (.node (amI r3_38) .nil .nil)) (.node (amD P r1_22) (.node (amD P r2_36) .nil .nil) .nil)) (.node (o217 P) (.node (amF P r1_0) (.node (amF P r2_14) .nil .nil) .nil) (.node (amI r1_43) (.node (amD P r3_17) .nil .nil) .nil))) (.node (o121 P) (.node (o185 P) (.node (amI r0_13) (.node (amD P r2_4) .nil .nil) (.node (amD P r3_49) .nil .nil)) (.node (amF P r1_32) (.node (amI r3_6) .nil .nil) .nil)) (.node (o249 P) (.node (amI r1_11) (.node (amI r2_25) .nil .nil) .nil) (.node (amD P r1_54) (.node (amF P r3_27) .nil .nil) .nil)))))) (.node (o13 P) (.node (o21 P) (.node (o37 P) (.node (o69 P) (.node (o133 P) (.node (o261 P) (.node (amD P r1_58) .nil .nil) (.node (amF P r3_31) .nil .nil)) (.node (amI r1_15) (.node (amI r2_29) .nil .nil) .nil)) (.node (o197v1 P) (.node (amI r0_17) (.node (amD P r2_8) .nil .nil) (.node (amD P r3_53) .nil .nil)) (.node (amF P r1_36) (.node (amI r3_10) .nil .nil) .nil))) (.node (o101 P) (.node (o165 P) (.node (amF P r0_6) (.node (amF P r1_68) .nil .nil) (.node (amI r3_42) .nil .nil)) (.node (amD P r1_26) (.node (o677 P) .nil .nil) .nil)) (.node (o229 P) (.node (amF P r1_4) (.node (amF P r2_18) .nil .nil) .nil) (.node (amI r1_47) (.node (amD P r3_21) .nil .nil) .nil)))) (.node (o53 P) (.node (o85 P) (.node (o149 P) (.node (amI r0_1) (.node (amI r1_63) .nil .nil) (.node (amD P r3_37) .nil .nil)) (.node (amF P r1_20) (.node (amF P r2_34) .nil .nil) .nil)) (.node (o213 P) (.node (amF P r0_22) (.node (amI r2_13) .nil .nil) (.node (o853 P) .nil .nil)) (.node (amD P r1_42) (.node (amF P r3_15) .nil .nil) .nil))) (.node (o117 P) (.node (o181 P) (.node (amD P r0_12) (.node (amF P r2_2) .nil .nil) (.node (amF P r3_47) .nil .nil)) (.node (amI r1_31) (.node (amD P r3_5) .nil .nil) .nil)) (.node (o245 P) (.node (amD P r1_10) (.node (amD P r2_24) .nil .nil) .nil) (.node (amF P r1_52) (.node (amI r3_26) .nil .nil) .nil))))) (.node (o29 P) (.node (o45 P) (.node (o77 P) (.node (o141 P) (.node (o269 P) (.node (amF P r1_60) .nil .nil) (.node (amI r3_34) .nil .nil)) (.node (amD P r1_18) (.node (amD P r2_32) .nil .nil) .nil)) (.node (o205 P) (.node (amD P r0_20) (.node (amF P r2_10) .nil .nil) (.node (amF P r3_55) .nil .nil)) (.node (amI r1_39) (.node (amD P r3_13) .nil .nil) .nil))) (.node (o109 P) (.node (o173 P) (.node (amI r0_9) (.node (amD P r2_0) .nil .nil) (.node (amD P r3_45) .nil .nil)) (.node (amF P r1_28) (.node (amI r3_2) .nil .nil) .nil)) (.node (o237 P) (.node (amI r1_7) (.node (amI r2_21) .nil .nil) .nil) (.node (amD P r1_50) (.node (amF P r3_23) .nil .nil) .nil)))) (.node (o61 P) (.node (o93 P) (.node (o157 P) (.node (amD P r0_4) (.node (amD P r1_66) .nil .nil) (.node (amF P r3_39) .nil .nil)) (.node (amI r1_23) (.node (amI r2_37) .nil .nil) .nil)) (.node (o221 P) (.node (amD P r1_2) (.node (amD P r2_16) .nil .nil) .nil) (.node (amF P r1_44) (.node (amI r3_18) .nil .nil) .nil))) (.node (o125 P) (.node (o189 P) (.node (amF P r0_14) (.node (amI r2_5) .nil .nil) (.node (amI r3_50) .nil .nil)) (.node (amD P r1_34) (.node (amF P r3_7) .nil .nil) .nil)) (.node (o253 P) (.node (amF P r1_12) (.node (amF P r2_26) .nil .nil) .nil) (.node (amI r1_55) (.node (amD P r3_29) .nil .nil) .nil)))))))) (.node (boot_o_2 P) (.node (boot_o_4 P) (.node (boot_o_8 P) (.node (o16 P) (.node (o32 P) (.node (o64 P) (.node (o128 P) (.node (o256 P) (.node (amI r1_56) .nil .nil) (.node (amD P r3_30) .nil .nil)) (.node (amF P r1_13) (.node (amF P r2_27) .nil .nil) .nil)) (.node (o192 P) (.node (amF P r0_15) (.node (amI r2_6) .nil .nil) (.node (amI r3_51) .nil .nil)) (.node (amD P r1_35) (.node (amF P r3_8) .nil .nil) .nil))) (.node (o96 P) (.node (o160 P) (.node (amD P r0_5) (.node (amD P r1_67) .nil .nil) (.node (amF P r3_40) .nil .nil)) (.node (amI r1_24) (.node (amI r2_38) .nil .nil) .nil)) (.node (o224 P) (.node (amD P r1_3) (.node (amD P r2_17) .nil .nil) .nil) (.node (amF P r1_45) (.node (amI r3_19) .nil .nil) .nil)))) (.node (o48 P) (.node (o80 P) (.node (o144 P) (.node (o272 P) (.node (amF P r1_61) .nil .nil) (.node (amI r3_35) .nil .nil)) (.node (amD P r1_19) (.node (amD P r2_33) .nil .nil) .nil)) (.node (o208 P) (.node (amD P r0_21) (.node (amF P r2_11) .nil .nil) (.node (amF P r3_56) .nil .nil)) (.node (amI r1_40) (.node (amD P r3_14) .nil .nil) .nil))) (.node (o112 P) (.node (o176 P) (.node (amI r0_10) (.node (amD P r2_1) .nil .nil) (.node (amD P r3_46) .nil .nil)) (.node (amF P r1_29) (.node (amI r3_3) .nil .nil) .nil)) (.node (o240 P) (.node (amI r1_8) (.node (amI r2_22) .nil .nil) .nil) (.node (amD P r1_51) (.node (amF P r3_24) .nil .nil) .nil))))) (.node (o24 P) (.node (o40 P) (.node (o72 P) (.node (o136 P) (.node (o264 P) (.node (amD P r1_59) .nil .nil) (.node (amF P r3_32) .nil .nil)) (.node (amI r1_16) (.node (amI r2_30) .nil .nil) .nil)) (.node (o200 P) (.node (amI r0_18) (.node (amD P r2_9) .nil .nil) (.node (amD P r3_54) .nil .nil)) (.node (amF P r1_37) (.node (amI r3_11) .nil .nil) .nil))) (.node (o104 P) (.node (o168 P) (.node (amF P r0_7) (.node (amF P r1_69) .nil .nil) (.node (amI r3_43) .nil .nil)) (.node (amD P r1_27) (.node (amF P r3_0) .nil .nil) .nil)) (.node (o232 P) (.node (amF P r1_5) (.node (amF P r2_19) .nil .nil) .nil) (.node (amI r1_48) (.node (amD P r3_22) .nil .nil) .nil)))) (.node (o56 P) (.node (o88 P) (.node (o152 P) (.node (amI r0_2) (.node (amI r1_64) .nil .nil) (.node (amD P r3_38) .nil .nil)) (.node (amF P r1_21) (.node (amF P r2_35) .nil .nil) .nil)) (.node (o216 P) (.node (amI r1_0) (.node (amI r2_14) .nil .nil) .nil) (.node (amD P r1_43) (.node (amF P r3_16) .nil .nil) .nil))) (.node (o120 P) (.node (o184 P) (.node (amD P r0_13) (.node (amF P r2_3) .nil .nil) (.node (amF P r3_48) .nil .nil)) (.node (amI r1_32) (.node (amD P r3_6) .nil .nil) .nil)) (.node (o248 P) (.node (amD P r1_11) (.node (amD P r2_25) .nil .nil) .nil) (.node (amF P r1_53) (.node (amI r3_27) .nil .nil) .nil)))))) (.node (o12v4 P) (.node (o20 P) (.node (o36 P) (.node (o68 P) (.node (o132 P) (.node (o260 P) (.node (amF P r1_57) .nil .nil) (.node (amI r3_31) .nil .nil)) (.node (amD P r1_15) (.node (amD P r2_29) .nil .nil) .nil)) (.node (o196 P) (.node (amD P r0_17) (.node (amF P r2_7) .nil .nil) (.node (amF P r3_52) .nil .nil)) (.node (amI r1_36) (.node (amD P r3_10) .nil .nil) .nil))) (.node (o100 P) (.node (o164 P) (.node (amI r0_6) (.node (amI r1_68) .nil .nil) (.node (amD P r3_42) .nil .nil)) (.node (amF P r1_25) (.node (amF P r2_39) .nil .nil) .nil)) (.node (o228 P) (.node (amI r1_4) (.node (amI r2_18) .nil .nil) .nil) (.node (amD P r1_47) (.node (amF P r3_20) .nil .nil) .nil)))) (.node (o52 P) (.node (o84 P) (.node (o148 P) (.node (amD P r0_1) (.node (amD P r1_63) .nil .nil) (.node (amF P r3_36) .nil .nil)) (.node (amI r1_20) (.node (amI r2_34) .nil .nil) .nil)) (.node (o212 P) (.node (amI r0_22) (.node (amD P r2_13) .nil .nil) (.node (o852 P) .nil .nil)) (.node (amF P r1_41) (.node (amI r3_15) .nil .nil) .nil))) (.node (o116 P) (.node (o180 P) (.node (amF P r0_11) (.node (amI r2_2) .nil .nil) (.node (amI r3_47) .nil .nil)) (.node (amD P r1_31) (.node (amF P r3_4) .nil .nil) .nil)) (.node (o244 P) (.node (amF P r1_9) (.node (amF P r2_23) .nil .nil) .nil) (.node (amI r1_52) (.node (amD P r3_26) .nil .nil) .nil))))) (.node (o28 P) (.node (o44 P) (.node (o76 P) (.node (o140 P) (.node (o268 P) (.node (amI r1_60) .nil .nil) (.node (amD P r3_34) .nil .nil)) (.node (amF P r1_17) (.node (amF P r2_31) .nil .nil) .nil)) (.node (o204 P) (.node (amF P r0_19) (.node (amI r2_10) .nil .nil) (.node (amI r3_55) .nil .nil)) (.node (amD P r1_39) (.node (amF P r3_12) .nil .nil) .nil))) (.node (o108 P) (.node (o172 P) (.node (amD P r0_9) (.node (o556 P) .nil .nil) (.node (amF P r3_44) .nil .nil)) (.node (amI r1_28) (.node (amD P r3_2) .nil .nil) .nil)) (.node (o236 P) (.node (amD P r1_7) (.node (amD P r2_21) .nil .nil) .nil) (.node (amF P r1_49) (.node (amI r3_23) .nil .nil) .nil)))) (.node (o60 P) (.node (o92 P) (.node (o156 P) (.node (amF P r0_3) (.node (amF P r1_65) .nil .nil) (.node (amI r3_39) .nil .nil)) (.node (amD P r1_23) (.node (amD P r2_37) .nil .nil) .nil)) (.node (o220 P) (.node (amF P r1_1) (.node (amF P r2_15) .nil .nil) .nil) (.node (amI r1_44) (.node (amD P r3_18) .nil .nil) .nil))) (.node (o124 P) (.node (o188 P) (.node (amI r0_14) (.node (amD P r2_5) .nil .nil) (.node (amD P r3_50) .nil .nil)) (.node (amF P r1_33) (.node (amI r3_7) .nil .nil) .nil)) (.node (o252 P) (.node (amI r1_12) (.node (amI r2_26) .nil .nil) .nil) (.node (amD P r1_55) (.node (amF P r3_28) .nil .nil) .nil))))))) (.node (boot_o_6 P) (.node (boot_o_10 P) (.node (o18 P) (.node (o34 P) (.node (o66 P) (.node (o130 P) (.node (o258 P) (.node (amD P r1_57) .nil .nil) (.node (amF P r3_30) .nil .nil)) (.node (amI r1_14) (.node (amI r2_28) .nil .nil) .nil)) (.node (o194 P) (.node (amI r0_16) (.node (amD P r2_7) .nil .nil) (.node (amD P r3_52) .nil .nil)) (.node (amF P r1_35) (.node (amI r3_9) .nil .nil) .nil))) (.node (o98 P) (.node (o162 P) (.node (amF P r0_5) (.node (amF P r1_67) .nil .nil) (.node (amI r3_41) .nil .nil)) (.node (amD P r1_25) (.node (amD P r2_39) .nil .nil) .nil)) (.node (o226 P) (.node (amF P r1_3) (.node (amF P r2_17) .nil .nil) .nil) (.node (amI r1_46) (.node (amD P r3_20) .nil .nil) .nil)))) (.node (o50 P) (.node (o82 P) (.node (o146 P) (.node (amI r0_0) (.node (amI r1_62) .nil .nil) (.node (amD P r3_36) .nil .nil)) (.node (amF P r1_19) (.node (amF P r2_33) .nil .nil) .nil)) (.node (o210 P) (.node (amF P r0_21) (.node (amI r2_12) .nil .nil) (.node (o850 P) .nil .nil)) (.node (amD P r1_41) (.node (amF P r3_14) .nil .nil) .nil))) (.node (o114 P) (.node (o178 P) (.node (amD P r0_11) (.node (amF P r2_1) .nil .nil) (.node (amF P r3_46) .nil .nil)) (.node (amI r1_30) (.node (amD P r3_4) .nil .nil) .nil)) (.node (o242 P) (.node (amD P r1_9) (.node (amD P r2_23) .nil .nil) .nil) (.node (amF P r1_51) (.node (amI r3_25) .nil .nil) .nil))))) (.node (o26 P) (.node (o42 P) (.node (o74 P) (.node (o138 P) (.node (o266 P) (.node (amF P r1_59) .nil .nil) (.node (amI r3_33) .nil .nil)) (.node (amD P r1_17) (.node (amD P r2_31) .nil .nil) .nil)) (.node (o202 P) (.node (amD P r0_19) (.node (amF P r2_9) .nil .nil) (.node (amF P r3_54) .nil .nil)) (.node (amI r1_38) (.node (amD P r3_12) .nil .nil) .nil))) (.node (o106 P) (.node (o170 P) (.node (amI r0_8) (.node (amI r1_70) .nil .nil) (.node (amD P r3_44) .nil .nil)) (.node (amF P r1_27) (.node (amI r3_1) .nil .nil) .nil)) (.node (o234 P) (.node (amI r1_6) (.node (amI r2_20) .nil .nil) .nil) (.node (amD P r1_49) (.node (amF P r3_22) .nil .nil) .nil)))) (.node (o58 P) (.node (o90 P) (.node (o154 P) (.node (amD P r0_3) (.node (amD P r1_65) .nil .nil) (.node (amF P r3_38) .nil .nil)) (.node (amI r1_22) (.node (amI r2_36) .nil .nil) .nil)) (.node (o218 P) (.node (amD P r1_1) (.node (amD P r2_15) .nil .nil) .nil) (.node (amF P r1_43) (.node (amI r3_17) .nil .nil) .nil))) (.node (o122 P) (.node (o186 P) (.node (amF P r0_13) (.node (amI r2_4) .nil .nil) (.node (amI r3_49) .nil .nil)) (.node (amD P r1_33) (.node (amF P r3_6) .nil .nil) .nil)) (.node (o250 P) (.node (amF P r1_11) (.node (amF P r2_25) .nil .nil) .nil) (.node (amI r1_54) (.node (amD P r3_28) .nil .nil) .nil)))))) (.node (o14 P) (.node (o22 P) (.node (o38 P) (.node (o70 P) (.node (o134 P) (.node (o262 P) (.node (amI r1_58) .nil .nil) (.node (amD P r3_32) .nil .nil)) (.node (amF P r1_15) (.node (amF P r2_29) .nil .nil) .nil)) (.node (o198 P) (.node (amF P r0_17) (.node (amI r2_8) .nil .nil) (.node (amI r3_53) .nil .nil)) (.node (amD P r1_37) (.node (amF P r3_10) .nil .nil) .nil))) (.node (o102 P) (.node (o166 P) (.node (amD P r0_7) (.node (amD P r1_69) .nil .nil) (.node (amF P r3_42) .nil .nil)) (.node (amI r1_26) (.node (amD P r3_0) .nil .nil) .nil)) (.node (oSet P) (.node (amD P r1_5) (.node (amD P r2_19) .nil .nil) .nil) (.node (amF P r1_47) (.node (amI r3_21) .nil .nil) .nil)))) (.node (o54 P) (.node (o86 P) (.node (o150 P) (.node (amF P r0_1) (.node (amF P r1_63) .nil .nil) (.node (amI r3_37) .nil .nil)) (.node (amD P r1_21) (.node (amD P r2_35) .nil .nil) .nil)) (.node (o214 P) (.node (o342 P) (.node (amF P r2_13) .nil .nil) (.node (o854 P) .nil .nil)) (.node (amI r1_42) (.node (amD P r3_16) .nil .nil) .nil))) (.node (o118 P) (.node (o182 P) (.node (amI r0_12) (.node (amD P r2_3) .nil .nil) (.node (amD P r3_48) .nil .nil)) (.node (amF P r1_31) (.node (amI r3_5) .nil .nil) .nil)) (.node (o246 P) (.node (amI r1_10) (.node (amI r2_24) .nil .nil) .nil) (.node (amD P r1_53) (.node (amF P r3_26) .nil .nil) .nil))))) (.node (o30 P) (.node (o46 P) (.node (o78 P) (.node (o142 P) (.node (o270 P) (.node (amD P r1_61) .nil .nil) (.node (amF P r3_34) .nil .nil)) (.node (amI r1_18) (.node (amI r2_32) .nil .nil) .nil)) (.node (o206 P) (.node (amI r0_20) (.node (amD P r2_11) .nil .nil) (.node (amD P r3_56) .nil .nil)) (.node (amF P r1_39) (.node (amI r3_13) .nil .nil) .nil))) (.node (o110 P) (.node (o174 P) (.node (amF P r0_9) (.node (amI r2_0) .nil .nil) (.node (amI r3_45) .nil .nil)) (.node (amD P r1_29) (.node (amF P r3_2) .nil .nil) .nil)) (.node (o238 P) (.node (amF P r1_7) (.node (amF P r2_21) .nil .nil) .nil) (.node (amI r1_50) (.node (amD P r3_24) .nil .nil) .nil)))) (.node (o62 P) (.node (o94 P) (.node (o158 P) (.node (amI r0_4) (.node (amI r1_66) .nil .nil) (.node (amD P r3_40) .nil .nil)) (.node (amF P r1_23) (.node (amF P r2_37) .nil .nil) .nil)) (.node (o222 P) (.node (amI r1_2) (.node (amI r2_16) .nil .nil) .nil) (.node (amD P r1_45) (.node (amF P r3_18) .nil .nil) .nil))) (.node (o126 P) (.node (o190 P) (.node (amD P r0_15) (.node (amF P r2_5) .nil .nil) (.node (amF P r3_50) .nil .nil)) (.node (amI r1_34) (.node (amD P r3_8) .nil .nil) .nil)) (.node (o254 P) (.node (amD P r1_13) (.node (amD P r2_27) .nil .nil) .nil) (.node (amF P r1_55) (.node (amI r3_29) .nil .nil) .nil)))))))))
noncomputable def SF (w : World) (os : OsState) : SharedT := ⟨TF w.params, 855, {}, #[], boot_drawn, 3130, os⟩
noncomputable def TG12 (P : Params) : BT := (.node (boot_o_0 P) (.node (boot_o_1 P) (.node (o3v12 P) (.node (boot_o_7 P) (.node (o15 P) (.node (o31 P) (.node (o63 P) (.node (o127 P) (.node (o255 P) (.node (amD P r1_56) .nil .nil) (.node (amF P r3_29) .nil .nil)) (.node (amI r1_13) (.node (amI r2_27) .nil .nil) .nil)) (.node (o191 P) (.node (amI r0_15) (.node (amD P r2_6) .nil .nil) (.node (amD P r3_51) .nil .nil)) (.node (amF P r1_34) (.node (amI r3_8) .nil .nil) .nil))) (.node (o95 P) (.node (o159 P) (.node (amF P r0_4) (.node (amF P r1_66) .nil .nil) (.node (amI r3_40) .nil .nil)) (.node (amD P r1_24) (.node (amD P r2_38) .nil .nil) .nil)) (.node (o223 P) (.node (amF P r1_2) (.node (amF P r2_16) .nil .nil) (.node (o863 P) .nil .nil)) (.node (amI r1_45) (.node (amD P r3_19) .nil .nil) .nil)))) (.node (o47 P) (.node (o79 P) (.node (o143 P) (.node (o271 P) (.node (amI r1_61) .nil .nil) (.node (amD P r3_35) .nil .nil)) (.node (amF P r1_18) (.node (amF P r2_32) .nil .nil) .nil)) (.node (o207 P) (.node (amF P r0_20) (.node (amI r2_11) .nil .nil) (.node (amI r3_56) .nil .nil)) (.node (amD P r1_40) (.node (amF P r3_13) .nil .nil) .nil))) (.node (o111 P) (.node (o175 P) (.node (amD P r0_10) (.node (amF P r2_0) .nil .nil) (.node (amF P r3_45) .nil .nil)) (.node (amI r1_29) (.node (amD P r3_3) .nil .nil) .nil)) (.node (o239 P) (.node (amD P r1_8) (.node (amD P r2_22) .nil .nil) .nil) (.node (amF P r1_50) (.node (amI r3_24) .nil .nil) .nil))))) (.node (o23 P) (.node (o39 P) (.node (o71 P) (.node (o135 P) (.node (o263 P) (.node (amF P r1_58) .nil .nil) (.node (amI r3_32) .nil .nil)) (.node (amD P r1_16) (.node (amD P r2_30) .nil .nil) .nil)) (.node (o199 P) (.node (amD P r0_18) (.node (amF P r2_8) .nil .nil) (.node (amF P r3_53) .nil .nil)) (.node (amI r1_37) (.node (amD P r3_11) .nil .nil) .nil))) (.node (o103 P) (.node (o167 P) (.node (amI r0_7) (.node (amI r1_69) .nil .nil) (.node (amD P r3_43) .nil .nil)) (.node (amF P r1_26) (.node (amI r3_0) .nil .nil) .nil)) (.node (o231 P) (.node (amI r1_5) (.node (amI r2_19) .nil .nil) .nil) (.node (amD P r1_48) (.node (amF P r3_21) .nil .nil) .nil)))) (.node (o55 P) (.node (o87 P) (.node (o151 P) (.node (amD P r0_2) (.node (amD P r1_64) .nil .nil) (.node (amF P r3_37) .nil .nil)) (.node (amI r1_21) (.node (amI r2_35) .nil .nil) .nil)) (.node (o215 P) (.node (amD P r1_0) (.node (amD P r2_14) .nil .nil) (.node (o855 P) .nil .nil)) (.node (amF P r1_42) (.node (amI r3_16) .nil .nil) .nil))) (.node (o119 P) (.node (o183 P) (.node (amF P r0_12) (.node (amI r2_3) .nil .nil) (.node (amI r3_48) .nil .nil)) (.node (amD P r1_32) (.node (amF P r3_5) .nil .nil) .nil)) (.node (o247 P) (.node (amF P r1_10) (.node (amF P r2_24) .nil .nil) .nil) (.node (amI r1_53) (.node (amD P r3_27) .nil .nil) .nil)))))) (.node (o11 P) (.node (o19 P) (.node (o35 P) (.node (o67 P) (.node (o131 P) (.node (o259 P) (.node (amI r1_57) .nil .nil) (.node (amD P r3_31) .nil .nil)) (.node (amF P r1_14) (.node (amF P r2_28) .nil .nil) .nil)) (.node (o195 P) (.node (amF P r0_16) (.node (amI r2_7) .nil .nil) (.node (amI r3_52) .nil .nil)) (.node (amD P r1_36) (.node (amF P r3_9) .nil .nil) .nil))) (.node (o99 P) (.node (o163 P) (.node (amD P r0_6) (.node (amD P r1_68) .nil .nil) (.node (amF P r3_41) .nil .nil)) (.node (amI r1_25) (.node (amI r2_39) .nil .nil) .nil)) (.node (o227v6 P) (.node (amD P r1_4) (.node (amD P r2_18) .nil .nil) (.node (o867 P) .nil .nil)) (.node (amF P r1_46) (.node (amI r3_20) .nil .nil) .nil)))) (.node (o51 P) (.node (o83 P) (.node (o147 P) (.node (amF P r0_0) (.node (amF P r1_62) .nil .nil) (.node (amI r3_36) .nil .nil)) (.node (amD P r1_20) (.node (amD P r2_34) .nil .nil) .nil)) (.node (o211 P) (.node (amD P r0_22) (.node (amF P r2_12) .nil .nil) (.node (o851 P) .nil .nil)) (.node (amI r1_41) (.node (amD P r3_15) .nil .nil) .nil))) (.node (o115 P) (.node (o179 P) (.node (amI r0_11) (.node (amD P r2_2) .nil .nil) (.node (amD P r3_47) .nil .nil)) (.node (amF P r1_30) (.node (amI r3_4) .nil .nil) .nil)) (.node (o243 P) (.node (amI r1_9) (.node (amI r2_23) .nil .nil) .nil) (.node (amD P r1_52) (.node (amF P r3_25) .nil .nil) .nil))))) (.node (o27 P) (.node (o43 P) (.node (o75 P) (.node (o139 P) (.node (o267 P) (.node (amD P r1_60) .nil .nil) (.node (amF P r3_33) .nil .nil)) (.node (amI r1_17) (.node (amI r2_31) .nil .nil) .nil)) (.node (o203 P) (.node (amI r0_19) (.node (amD P r2_10) .nil .nil) (.node (amD P r3_55) .nil .nil)) (.node (amF P r1_38) (.node (amI r3_12) .nil .nil) .nil))) (.node (o107 P) (.node (o171 P) (.node (amF P r0_8) (.node (amF P r1_70) .nil .nil) (.node (amI r3_44) .nil .nil)) (.node (amD P r1_28) (.node (amF P r3_1) .nil .nil) .nil)) (.node (o235 P) (.node (amF P r1_6) (.node (amF P r2_20) .nil .nil) .nil) (.node (amI r1_49) (.node (amD P r3_23) .nil .nil) .nil)))) (.node (o59 P) (.node (o91 P) (.node (o155 P) (.node (amI r0_3) (.node (amI r1_65) .nil .nil) (.node (amD P r3_39) .nil .nil)) (.node (amF P r1_22) (.node (amF P r2_36) .nil .nil) .nil)) (.node (o219 P) (.node (amI r1_1) (.node (amI r2_15) .nil .nil) (.node (o859 P) .nil .nil)) (.node (amD P r1_44) (.node (amF P r3_17) .nil .nil) .nil))) (.node (o123 P) (.node (o187 P) (.node (amD P r0_14) (.node (amF P r2_4) .nil .nil) (.node (amF P r3_49) .nil .nil)) (.node (amI r1_33) (.node (amD P r3_7) .nil .nil) .nil)) (.node (o251 P) (.node (amD P r1_12) (.node (amD P r2_26) .nil .nil) .nil) (.node (amF P r1_54) (.node (amI r3_28) .nil .nil) .nil))))))) (.node (boot_o_5 P) (.node (boot_o_9 P) (.node (o17 P) (.node (o33 P) (.node (o65 P) (.node (o129 P) (.node (o257 P) (.node (amF P r1_56) .nil .nil) (.node (amI r3_30) .nil .nil)) (.node (amD P r1_14) (.node (amD P r2_28) .nil .nil) .nil)) (.node (o193 P) (.node (amD P r0_16) (.node (amF P r2_6) .nil .nil) (.node (amF P r3_51) .nil .nil)) (.node (amI r1_35) (.node (amD P r3_9) .nil .nil) .nil))) (.node (o97 P) (.node (o161 P) (.node (amI r0_5) (.node (amI r1_67) .nil .nil) (.node (amD P r3_41) .nil .nil)) (.node (amF P r1_24) (.node (amF P r2_38) .nil .nil) .nil)) (.node (o225v14 P) (.node (amI r1_3) (.node (amI r2_17) .nil .nil) (.node (o865 P) .nil .nil)) (.node (amD P r1_46) (.node (amF P r3_19) .nil .nil) .nil)))) (.node (o49 P) (.node (o81 P) (.node (o145 P) (.node (amD P r0_0) (.node (amD P r1_62) .nil .nil) (.node (amF P r3_35) .nil .nil)) (.node (amI r1_19) (.node (amI r2_33) .nil .nil) .nil)) (.node (o209 P) (.node (amI r0_21) (.node (amD P r2_12) .nil .nil) (.node (o849 P) .nil .nil)) (.node (amF P r1_40) (.node (amI r3_14) .nil .nil) .nil))) (.node (o113 P) (.node (o177 P) (.node (amF P r0_10) (.node (amI r2_1) .nil .nil) (.node (amI r3_46) .nil .nil)) (.node (amD P r1_30) (.node (amF P r3_3) .nil .nil) .nil)) (.node (o241 P) (.node (amF P r1_8) (.node (amF P r2_22) .nil .nil) .nil) (.node (amI r1_51) (.node (amD P r3_25) .nil .nil) .nil))))) (.node (o25 P) (.node (o41 P) (.node (o73 P) (.node (o137 P) (.node (o265 P) (.node (amI r1_59) .nil .nil) (.node (amD P r3_33) .nil .nil)) (.node (amF P r1_16) (.node (amF P r2_30) .nil .nil) .nil)) (.node (o201 P) (.node (amF P r0_18) (.node (amI r2_9) .nil .nil) (.node (amI r3_54) .nil .nil)) (.node (amD P r1_38) (.node (amF P r3_11) .nil .nil) .nil))) (.node (o105 P) (.node (o169 P) (.node (amD P r0_8) (.node (amD P r1_70) .nil .nil) (.node (amF P r3_43) .nil .nil)) (.node (amI r1_27) (.node (amD P r3_1) .nil .nil) .nil)) (.node (o233 P) (.node (amD P r1_6) (.node (amD P r2_20) .nil .nil) .nil) (.node (amF P r1_48) (.node (amI r3_22) .nil .nil) .nil)))) (.node (o57 P) (.node (o89 P) (.node (o153 P) (.node (amF P r0_2) (.node (amF P r1_64) .nil .nil) (.node (amI r3_38) .nil .nil)) (.node (amD P r1_22) (.node (amD P r2_36) .nil .nil) .nil)) (.node (o217 P) (.node (amF P r1_0) (.node (amF P r2_14) .nil .nil) (.node (o857 P) .nil .nil)) (.node (amI r1_43) (.node (amD P r3_17) .nil .nil) .nil))) (.node (o121 P) (.node (o185 P) (.node (amI r0_13) (.node (amD P r2_4) .nil .nil) (.node (amD P r3_49) .nil .nil)) (.node (amF P r1_32) (.node (amI r3_6) .nil .nil) .nil)) (.node (o249 P) (.node (amI r1_11) (.node (amI r2_25) .nil .nil) .nil) (.node (amD P r1_54) (.node (amF P r3_27) .nil .nil) .nil)))))) (.node (o13 P) (.node (o21 P) (.node (o37 P) (.node (o69 P) (.node (o133 P) (.node (o261 P) (.node (amD P r1_58) .nil .nil) (.node (amF P r3_31) .nil .nil)) (.node (amI r1_15) (.node (amI r2_29) .nil .nil) .nil)) (.node (o197v1 P) (.node (amI r0_17) (.node (amD P r2_8) .nil .nil) (.node (amD P r3_53) .nil .nil)) (.node (amF P r1_36) (.node (amI r3_10) .nil .nil) .nil))) (.node (o101 P) (.node (o165 P) (.node (amF P r0_6) (.node (amF P r1_68) .nil .nil) (.node (amI r3_42) .nil .nil)) (.node (amD P r1_26) (.node (o677 P) .nil .nil) .nil)) (.node (o229 P) (.node (amF P r1_4) (.node (amF P r2_18) .nil .nil) .nil) (.node (amI r1_47) (.node (amD P r3_21) .nil .nil) .nil)))) (.node (o53 P) (.node (o85 P) (.node (o149 P) (.node (amI r0_1) (.node (amI r1_63) .nil .nil) (.node (amD P r3_37) .nil .nil)) (.node (amF P r1_20) (.node (amF P r2_34) .nil .nil) .nil)) (.node (o213 P) (.node (amF P r0_22) (.node (amI r2_13) .nil .nil) (.node (o853 P) .nil .nil)) (.node (amD P r1_42) (.node (amF P r3_15) .nil .nil) .nil))) (.node (o117 P) (.node (o181 P) (.node (amD P r0_12) (.node (amF P r2_2) .nil .nil) (.node (amF P r3_47) .nil .nil)) (.node (amI r1_31) (.node (amD P r3_5) .nil .nil) .nil)) (.node (o245 P) (.node (amD P r1_10) (.node (amD P r2_24) .nil .nil) .nil) (.node (amF P r1_52) (.node (amI r3_26) .nil .nil) .nil))))) (.node (o29 P) (.node (o45 P) (.node (o77 P) (.node (o141 P) (.node (o269 P) (.node (amF P r1_60) .nil .nil) (.node (amI r3_34) .nil .nil)) (.node (amD P r1_18) (.node (amD P r2_32) .nil .nil) .nil)) (.node (o205 P) (.node (amD P r0_20) (.node (amF P r2_10) .nil .nil) (.node (amF P r3_55) .nil .nil)) (.node (amI r1_39) (.node (amD P r3_13) .nil .nil) .nil))) (.node (o109 P) (.node (o173 P) (.node (amI r0_9) (.node (amD P r2_0) .nil .nil) (.node (amD P r3_45) .nil .nil)) (.node (amF P r1_28) (.node (amI r3_2) .nil .nil) .nil)) (.node (o237 P) (.node (amI r1_7) (.node (amI r2_21) .nil .nil) .nil) (.node (amD P r1_50) (.node (amF P r3_23) .nil .nil) .nil)))) (.node (o61 P) (.node (o93 P) (.node (o157 P) (.node (amD P r0_4) (.node (amD P r1_66) .nil .nil) (.node (amF P r3_39) .nil .nil)) (.node (amI r1_23) (.node (amI r2_37) .nil .nil) .nil)) (.node (o221 P) (.node (amD P r1_2) (.node (amD P r2_16) .nil .nil) (.node (o861 P) .nil .nil)) (.node (amF P r1_44) (.node (amI r3_18) .nil .nil) .nil))) (.node (o125 P) (.node (o189 P) (.node (amF P r0_14) (.node (amI r2_5) .nil .nil) (.node (amI r3_50) .nil .nil)) (.node (amD P r1_34) (.node (amF P r3_7) .nil .nil) .nil)) (.node (o253 P) (.node (amF P r1_12) (.node (amF P r2_26) .nil .nil) .nil) (.node (amI r1_55) (.node (amD P r3_29) .nil .nil) .nil)))))))) (.node (o2 P) (.node (boot_o_4 P) (.node (boot_o_8 P) (.node (o16 P) (.node (o32 P) (.node (o64 P) (.node (o128 P) (.node (o256 P) (.node (amI r1_56) .nil .nil) (.node (amD P r3_30) .nil .nil)) (.node (amF P r1_13) (.node (amF P r2_27) .nil .nil) .nil)) (.node (o192 P) (.node (amF P r0_15) (.node (amI r2_6) .nil .nil) (.node (amI r3_51) .nil .nil)) (.node (amD P r1_35) (.node (amF P r3_8) .nil .nil) .nil))) (.node (o96 P) (.node (o160 P) (.node (amD P r0_5) (.node (amD P r1_67) .nil .nil) (.node (amF P r3_40) .nil .nil)) (.node (amI r1_24) (.node (amI r2_38) .nil .nil) .nil)) (.node (o224 P) (.node (amD P r1_3) (.node (amD P r2_17) .nil .nil) (.node (o864 P) .nil .nil)) (.node (amF P r1_45) (.node (amI r3_19) .nil .nil) .nil)))) (.node (o48 P) (.node (o80 P) (.node (o144 P) (.node (o272 P) (.node (amF P r1_61) .nil .nil) (.node (amI r3_35) .nil .nil)) (.node (amD P r1_19) (.node (amD P r2_33) .nil .nil) .nil)) (.node (o208 P) (.node (amD P r0_21) (.node (amF P r2_11) .nil .nil) (.node (amF P r3_56) .nil .nil)) (.node (amI r1_40) (.node (amD P r3_14) .nil .nil) .nil))) (.node (o112 P) (.node (o176 P) (.node (amI r0_10) (.node (amD P r2_1) .nil .nil) (.node (amD P r3_46) .nil .nil)) (.node (amF P r1_29) (.node (amI r3_3) .nil .nil) .nil)) (.node (o240 P) (.node (amI r1_8) (.node (amI r2_22) .nil .nil) .nil) (.node (amD P r1_51) (.node (amF P r3_24) .nil .nil) .nil))))) (.node (o24 P) (.node (o40 P) (.node (o72 P) (.node (o136 P) (.node (o264 P) (.node (amD P r1_59) .nil .nil) (.node (amF P r3_32) .nil .nil)) (.node (amI r1_16) (.node (amI r2_30) .nil .nil) .nil)) (.node (o200 P) (.node (amI r0_18) (.node (amD P r2_9) .nil .nil) (.node (amD P r3_54) .nil .nil)) (.node (amF P r1_37) (.node (amI r3_11) .nil .nil) .nil))) (.node (o104 P) (.node (o168 P) (.node (amF P r0_7) (.node (amF P r1_69) .nil .nil) (.node (amI r3_43) .nil .nil)) (.node (amD P r1_27) (.node (amF P r3_0) .nil .nil) .nil)) (.node (o232 P) (.node (amF P r1_5) (.node (amF P r2_19) .nil .nil) .nil) (.node (amI r1_48) (.node (amD P r3_22) .nil .nil) .nil)))) (.node (o56 P) (.node (o88 P) (.node (o152 P) (.node (amI r0_2) (.node (amI r1_64) .nil .nil) (.node (amD P r3_38) .nil .nil)) (.node (amF P r1_21) (.node (amF P r2_35) .nil .nil) .nil)) (.node (o216 P) (.node (amI r1_0) (.node (amI r2_14) .nil .nil) (.node (o856 P) .nil .nil)) (.node (amD P r1_43) (.node (amF P r3_16) .nil .nil) .nil))) (.node (o120 P) (.node (o184 P) (.node (amD P r0_13) (.node (amF P r2_3) .nil .nil) (.node (amF P r3_48) .nil .nil)) (.node (amI r1_32) (.node (amD P r3_6) .nil .nil) .nil)) (.node (o248 P) (.node (amD P r1_11) (.node (amD P r2_25) .nil .nil) .nil) (.node (amF P r1_53) (.node (amI r3_27) .nil .nil) .nil)))))) (.node (o12v5 P) (.node (o20 P) (.node (o36 P) (.node (o68 P) (.node (o132 P) (.node (o260 P) (.node (amF P r1_57) .nil .nil) (.node (amI r3_31) .nil .nil)) (.node (amD P r1_15) (.node (amD P r2_29) .nil .nil) .nil)) (.node (o196 P) (.node (amD P r0_17) (.node (amF P r2_7) .nil .nil) (.node (amF P r3_52) .nil .nil)) (.node (amI r1_36) (.node (amD P r3_10) .nil .nil) .nil))) (.node (o100 P) (.node (o164 P) (.node (amI r0_6) (.node (amI r1_68) .nil .nil) (.node (amD P r3_42) .nil .nil)) (.node (amF P r1_25) (.node (amF P r2_39) .nil .nil) .nil)) (.node (o228 P) (.node (amI r1_4) (.node (amI r2_18) .nil .nil) .nil) (.node (amD P r1_47) (.node (amF P r3_20) .nil .nil) .nil)))) (.node (o52 P) (.node (o84 P) (.node (o148 P) (.node (amD P r0_1) (.node (amD P r1_63) .nil .nil) (.node (amF P r3_36) .nil .nil)) (.node (amI r1_20) (.node (amI r2_34) .nil .nil) .nil)) (.node (o212 P) (.node (amI r0_22) (.node (amD P r2_13) .nil .nil) (.node (o852 P) .nil .nil)) (.node (amF P r1_41) (.node (amI r3_15) .nil .nil) .nil))) (.node (o116 P) (.node (o180 P) (.node (amF P r0_11) (.node (amI r2_2) .nil .nil) (.node (amI r3_47) .nil .nil)) (.node (amD P r1_31) (.node (amF P r3_4) .nil .nil) .nil)) (.node (o244 P) (.node (amF P r1_9) (.node (amF P r2_23) .nil .nil) .nil) (.node (amI r1_52) (.node (amD P r3_26) .nil .nil) .nil))))) (.node (o28 P) (.node (o44 P) (.node (o76 P) (.node (o140 P) (.node (o268 P) (.node (amI r1_60) .nil .nil) (.node (amD P r3_34) .nil .nil)) (.node (amF P r1_17) (.node (amF P r2_31) .nil .nil) .nil)) (.node (o204 P) (.node (amF P r0_19) (.node (amI r2_10) .nil .nil) (.node (amI r3_55) .nil .nil)) (.node (amD P r1_39) (.node (amF P r3_12) .nil .nil) .nil))) (.node (o108 P) (.node (o172 P) (.node (amD P r0_9) (.node (o556 P) .nil .nil) (.node (amF P r3_44) .nil .nil)) (.node (amI r1_28) (.node (amD P r3_2) .nil .nil) .nil)) (.node (o236 P) (.node (amD P r1_7) (.node (amD P r2_21) .nil .nil) .nil) (.node (amF P r1_49) (.node (amI r3_23) .nil .nil) .nil)))) (.node (o60 P) (.node (o92 P) (.node (o156 P) (.node (amF P r0_3) (.node (amF P r1_65) .nil .nil) (.node (amI r3_39) .nil .nil)) (.node (amD P r1_23) (.node (amD P r2_37) .nil .nil) .nil)) (.node (o220 P) (.node (amF P r1_1) (.node (amF P r2_15) .nil .nil) (.node (o860 P) .nil .nil)) (.node (amI r1_44) (.node (amD P r3_18) .nil .nil) .nil))) (.node (o124 P) (.node (o188 P) (.node (amI r0_14) (.node (amD P r2_5) .nil .nil) (.node (amD P r3_50) .nil .nil)) (.node (amF P r1_33) (.node (amI r3_7) .nil .nil) .nil)) (.node (o252 P) (.node (amI r1_12) (.node (amI r2_26) .nil .nil) .nil) (.node (amD P r1_55) (.node (amF P r3_28) .nil .nil) .nil))))))) (.node (boot_o_6 P) (.node (boot_o_10 P) (.node (o18 P) (.node (o34 P) (.node (o66 P) (.node (o130 P) (.node (o258 P) (.node (amD P r1_57) .nil .nil) (.node (amF P r3_30) .nil .nil)) (.node (amI r1_14) (.node (amI r2_28) .nil .nil) .nil)) (.node (o194 P) (.node (amI r0_16) (.node (amD P r2_7) .nil .nil) (.node (amD P r3_52) .nil .nil)) (.node (amF P r1_35) (.node (amI r3_9) .nil .nil) .nil))) (.node (o98 P) (.node (o162 P) (.node (amF P r0_5) (.node (amF P r1_67) .nil .nil) (.node (amI r3_41) .nil .nil)) (.node (amD P r1_25) (.node (amD P r2_39) .nil .nil) .nil)) (.node (o226 P) (.node (amF P r1_3) (.node (amF P r2_17) .nil .nil) (.node (o866 P) .nil .nil)) (.node (amI r1_46) (.node (amD P r3_20) .nil .nil) .nil)))) (.node (o50 P) (.node (o82 P) (.node (o146 P) (.node (amI r0_0) (.node (amI r1_62) .nil .nil) (.node (amD P r3_36) .nil .nil)) (.node (amF P r1_19) (.node (amF P r2_33) .nil .nil) .nil)) (.node (o210 P) (.node (amF P r0_21) (.node (amI r2_12) .nil .nil) (.node (o850 P) .nil .nil)) (.node (amD P r1_41) (.node (amF P r3_14) .nil .nil) .nil))) (.node (o114 P) (.node (o178 P) (.node (amD P r0_11) (.node (amF P r2_1) .nil .nil) (.node (amF P r3_46) .nil .nil)) (.node (amI r1_30) (.node (amD P r3_4) .nil .nil) .nil)) (.node (o242 P) (.node (amD P r1_9) (.node (amD P r2_23) .nil .nil) .nil) (.node (amF P r1_51) (.node (amI r3_25) .nil .nil) .nil))))) (.node (o26 P) (.node (o42 P) (.node (o74 P) (.node (o138 P) (.node (o266 P) (.node (amF P r1_59) .nil .nil) (.node (amI r3_33) .nil .nil)) (.node (amD P r1_17) (.node (amD P r2_31) .nil .nil) .nil)) (.node (o202 P) (.node (amD P r0_19) (.node (amF P r2_9) .nil .nil) (.node (amF P r3_54) .nil .nil)) (.node (amI r1_38) (.node (amD P r3_12) .nil .nil) .nil))) (.node (o106 P) (.node (o170 P) (.node (amI r0_8) (.node (amI r1_70) .nil .nil) (.node (amD P r3_44) .nil .nil)) (.node (amF P r1_27) (.node (amI r3_1) .nil .nil) .nil)) (.node (o234 P) (.node (amI r1_6) (.node (amI r2_20) .nil .nil) .nil) (.node (amD P r1_49) (.node (amF P r3_22) .nil .nil) .nil)))) (.node (o58 P) (.node (o90 P) (.node (o154 P) (.node (amD P r0_3) (.node (amD P r1_65) .nil .nil) (.node (amF P r3_38) .nil .nil)) (.node (amI r1_22) (.node (amI r2_36) .nil .nil) .nil)) (.node (o218 P) (.node (amD P r1_1) (.node (amD P r2_15) .nil .nil) (.node (o858 P) .nil .nil)) (.node (amF P r1_43) (.node (amI r3_17) .nil .nil) .nil))) (.node (o122 P) (.node (o186 P) (.node (amF P r0_13) (.node (amI r2_4) .nil .nil) (.node (amI r3_49) .nil .nil)) (.node (amD P r1_33) (.node (amF P r3_6) .nil .nil) .nil)) (.node (o250 P) (.node (amF P r1_11) (.node (amF P r2_25) .nil .nil) .nil) (.node (amI r1_54) (.node (amD P r3_28) .nil .nil) .nil)))))) (.node (o14 P) (.node (o22 P) (.node (o38 P) (.node (o70 P) (.node (o134 P) (.node (o262 P) (.node (amI r1_58) .nil .nil) (.node (amD P r3_32) .nil .nil)) (.node (amF P r1_15) (.node (amF P r2_29) .nil .nil) .nil)) (.node (o198 P) (.node (amF P r0_17) (.node (amI r2_8) .nil .nil) (.node (amI r3_53) .nil .nil)) (.node (amD P r1_37) (.node (amF P r3_10) .nil .nil) .nil))) (.node (o102 P) (.node (o166 P) (.node (amD P r0_7) (.node (amD P r1_69) .nil .nil) (.node (amF P r3_42) .nil .nil)) (.node (amI r1_26) (.node (amD P r3_0) .nil .nil) .nil)) (.node (oSet P) (.node (amD P r1_5) (.node (amD P r2_19) .nil .nil) .nil) (.node (amF P r1_47) (.node (amI r3_21) .nil .nil) .nil)))) (.node (o54 P) (.node (o86 P) (.node (o150 P) (.node (amF P r0_1) (.node (amF P r1_63) .nil .nil) (.node (amI r3_37) .nil .nil)) (.node (amD P r1_21) (.node (amD P r2_35) .nil .nil) .nil)) (.node (o214 P) (.node (o342 P) (.node (amF P r2_13) .nil .nil) (.node (o854 P) .nil .nil)) (.node (amI r1_42) (.node (amD P r3_16) .nil .nil) .nil))) (.node (o118 P) (.node (o182 P) (.node (amI r0_12) (.node (amD P r2_3) .nil .nil) (.node (amD P r3_48) .nil .nil)) (.node (amF P r1_31) (.node (amI r3_5) .nil .nil) .nil)) (.node (o246 P) (.node (amI r1_10) (.node (amI r2_24) .nil .nil) .nil) (.node (amD P r1_53) (.node (amF P r3_26) .nil .nil) .nil))))) (.node (o30 P) (.node (o46 P) (.node (o78 P) (.node (o142 P) (.node (o270 P) (.node (amD P r1_61) .nil .nil) (.node (amF P r3_34) .nil .nil)) (.node (amI r1_18) (.node (amI r2_32) .nil .nil) .nil)) (.node (o206 P) (.node (amI r0_20) (.node (amD P r2_11) .nil .nil) (.node (amD P r3_56) .nil .nil)) (.node (amF P r1_39) (.node (amI r3_13) .nil .nil) .nil))) (.node (o110 P) (.node (o174 P) (.node (amF P r0_9) (.node (amI r2_0) .nil .nil) (.node (amI r3_45) .nil .nil)) (.node (amD P r1_29) (.node (amF P r3_2) .nil .nil) .nil)) (.node (o238 P) (.node (amF P r1_7) (.node (amF P r2_21) .nil .nil) .nil) (.node (amI r1_50) (.node (amD P r3_24) .nil .nil) .nil)))) (.node (o62 P) (.node (o94 P) (.node (o158 P) (.node (amI r0_4) (.node (amI r1_66) .nil .nil) (.node (amD P r3_40) .nil .nil)) (.node (amF P r1_23) (.node (amF P r2_37) .nil .nil) .nil)) (.node (o222 P) (.node (amI r1_2) (.node (amI r2_16) .nil .nil) (.node (o862 P) .nil .nil)) (.node (amD P r1_45) (.node (amF P r3_18) .nil .nil) .nil))) (.node (o126 P) (.node (o190 P) (.node (amD P r0_15) (.node (amF P r2_5) .nil .nil) (.node (amF P r3_50) .nil .nil)) (.node (amI r1_34) (.node (amD P r3_8) .nil .nil) .nil)) (.node (o254 P) (.node (amD P r1_13) (.node (amD P r2_27) .nil .nil) .nil) (.node (amF P r1_55) (.node (amI r3_29) .nil .nil) .nil)))))))))
noncomputable def SG12 (w : World) (os : OsState) : SharedT := ⟨TG12 w.params, 868, {}, #[], boot_drawn, 3160, os⟩
noncomputable def TG17 (P : Params) : BT := (.node (boot_o_0 P) (.node (boot_o_1 P) (.node (o3v17 P) (.node (boot_o_7 P) (.node (o15 P) (.node (o31 P) (.node (o63 P) (.node (o127 P) (.node (o255 P) (.node (amD P r1_56) .nil .nil) (.node (amF P r3_29) .nil .nil)) (.node (amI r1_13) (.node (amI r2_27) .nil .nil) .nil)) (.node (o191 P) (.node (amI r0_15) (.node (amD P r2_6) .nil .nil) (.node (amD P r3_51) .nil .nil)) (.node (amF P r1_34) (.node (amI r3_8) .nil .nil) .nil))) (.node (o95 P) (.node (o159 P) (.node (amF P r0_4) (.node (amF P r1_66) .nil .nil) (.node (amI r3_40) .nil .nil)) (.node (amD P r1_24) (.node (amD P r2_38) .nil .nil) .nil)) (.node (o223 P) (.node (amF P r1_2) (.node (amF P r2_16) .nil .nil) (.node (o863 P) .nil .nil)) (.node (amI r1_45) (.node (amD P r3_19) .nil .nil) .nil)))) (.node (o47 P) (.node (o79 P) (.node (o143 P) (.node (o271 P) (.node (amI r1_61) .nil .nil) (.node (amD P r3_35) .nil .nil)) (.node (amF P r1_18) (.node (amF P r2_32) .nil .nil) .nil)) (.node (o207 P) (.node (amF P r0_20) (.node (amI r2_11) .nil .nil) (.node (amI r3_56) .nil .nil)) (.node (amD P r1_40) (.node (amF P r3_13) .nil .nil) .nil))) (.node (o111 P) (.node (o175 P) (.node (amD P r0_10) (.node (amF P r2_0) .nil .nil) (.node (amF P r3_45) .nil .nil)) (.node (amI r1_29) (.node (amD P r3_3) .nil .nil) .nil)) (.node (o239 P) (.node (amD P r1_8) (.node (amD P r2_22) .nil .nil) .nil) (.node (amF P r1_50) (.node (amI r3_24) .nil .nil) .nil))))) (.node (o23 P) (.node (o39 P) (.node (o71 P) (.node (o135 P) (.node (o263 P) (.node (amF P r1_58) .nil .nil) (.node (amI r3_32) .nil .nil)) (.node (amD P r1_16) (.node (amD P r2_30) .nil .nil) .nil)) (.node (o199 P) (.node (amD P r0_18) (.node (amF P r2_8) .nil .nil) (.node (amF P r3_53) .nil .nil)) (.node (amI r1_37) (.node (amD P r3_11) .nil .nil) .nil))) (.node (o103 P) (.node (o167 P) (.node (amI r0_7) (.node (amI r1_69) .nil .nil) (.node (amD P r3_43) .nil .nil)) (.node (amF P r1_26) (.node (amI r3_0) .nil .nil) .nil)) (.node (o231 P) (.node (amI r1_5) (.node (amI r2_19) .nil .nil) (.node (o871 P) .nil .nil)) (.node (amD P r1_48) (.node (amF P r3_21) .nil .nil) .nil)))) (.node (o55 P) (.node (o87 P) (.node (o151 P) (.node (amD P r0_2) (.node (amD P r1_64) .nil .nil) (.node (amF P r3_37) .nil .nil)) (.node (amI r1_21) (.node (amI r2_35) .nil .nil) .nil)) (.node (o215 P) (.node (amD P r1_0) (.node (amD P r2_14) .nil .nil) (.node (o855 P) .nil .nil)) (.node (amF P r1_42) (.node (amI r3_16) .nil .nil) .nil))) (.node (o119 P) (.node (o183 P) (.node (amF P r0_12) (.node (amI r2_3) .nil .nil) (.node (amI r3_48) .nil .nil)) (.node (amD P r1_32) (.node (amF P r3_5) .nil .nil) .nil)) (.node (o247 P) (.node (amF P r1_10) (.node (amF P r2_24) .nil .nil) .nil) (.node (amI r1_53) (.node (amD P r3_27) .nil .nil) .nil)))))) (.node (o11 P) (.node (o19 P) (.node (o35 P) (.node (o67 P) (.node (o131 P) (.node (o259 P) (.node (amI r1_57) .nil .nil) (.node (amD P r3_31) .nil .nil)) (.node (amF P r1_14) (.node (amF P r2_28) .nil .nil) .nil)) (.node (o195 P) (.node (amF P r0_16) (.node (amI r2_7) .nil .nil) (.node (amI r3_52) .nil .nil)) (.node (amD P r1_36) (.node (amF P r3_9) .nil .nil) .nil))) (.node (o99 P) (.node (o163 P) (.node (amD P r0_6) (.node (amD P r1_68) .nil .nil) (.node (amF P r3_41) .nil .nil)) (.node (amI r1_25) (.node (amI r2_39) .nil .nil) .nil)) (.node (o227v6 P) (.node (amD P r1_4) (.node (amD P r2_18) .nil .nil) (.node (o867 P) .nil .nil)) (.node (amF P r1_46) (.node (amI r3_20) .nil .nil) .nil)))) (.node (o51 P) (.node (o83 P) (.node (o147 P) (.node (amF P r0_0) (.node (amF P r1_62) .nil .nil) (.node (amI r3_36) .nil .nil)) (.node (amD P r1_20) (.node (amD P r2_34) .nil .nil) .nil)) (.node (o211 P) (.node (amD P r0_22) (.node (amF P r2_12) .nil .nil) (.node (o851 P) .nil .nil)) (.node (amI r1_41) (.node (amD P r3_15) .nil .nil) .nil))) (.node (o115 P) (.node (o179 P) (.node (amI r0_11) (.node (amD P r2_2) .nil .nil) (.node (amD P r3_47) .nil .nil)) (.node (amF P r1_30) (.node (amI r3_4) .nil .nil) .nil)) (.node (o243 P) (.node (amI r1_9) (.node (amI r2_23) .nil .nil) .nil) (.node (amD P r1_52) (.node (amF P r3_25) .nil .nil) .nil))))) (.node (o27 P) (.node (o43 P) (.node (o75 P) (.node (o139 P) (.node (o267 P) (.node (amD P r1_60) .nil .nil) (.node (amF P r3_33) .nil .nil)) (.node (amI r1_17) (.node (amI r2_31) .nil .nil) .nil)) (.node (o203 P) (.node (amI r0_19) (.node (amD P r2_10) .nil .nil) (.node (amD P r3_55) .nil .nil)) (.node (amF P r1_38) (.node (amI r3_12) .nil .nil) .nil))) (.node (o107 P) (.node (o171 P) (.node (amF P r0_8) (.node (amF P r1_70) .nil .nil) (.node (amI r3_44) .nil .nil)) (.node (amD P r1_28) (.node (amF P r3_1) .nil .nil) .nil)) (.node (o235 P) (.node (amF P r1_6) (.node (amF P r2_20) .nil .nil) .nil) (.node (amI r1_49) (.node (amD P r3_23) .nil .nil) .nil)))) (.node (o59 P) (.node (o91 P) (.node (o155 P) (.node (amI r0_3) (.node (amI r1_65) .nil .nil) (.node (amD P r3_39) .nil .nil)) (.node (amF P r1_22) (.node (amF P r2_36) .nil .nil) .nil)) (.node (o219 P) (.node (amI r1_1) (.node (amI r2_15) .nil .nil) (.node (o859 P) .nil .nil)) (.node (amD P r1_44) (.node (amF P r3_17) .nil .nil) .nil))) (.node (o123 P) (.node (o187 P) (.node (amD P r0_14) (.node (amF P r2_4) .nil .nil) (.node (amF P r3_49) .nil .nil)) (.node (amI r1_33) (.node (amD P r3_7) .nil .nil) .nil)) (.node (o251 P) (.node (amD P r1_12) (.node (amD P r2_26) .nil .nil) .nil) (.node (amF P r1_54) (.node (amI r3_28) .nil .nil) .nil))))))) (.node (boot_o_5 P) (.node (boot_o_9 P) (.node (o17 P) (.node (o33 P) (.node (o65 P) (.node (o129 P) (.node (o257 P) (.node (amF P r1_56) .nil .nil) (.node (amI r3_30) .nil .nil)) (.node (amD P r1_14) (.node (amD P r2_28) .nil .nil) .nil)) (.node (o193 P) (.node (amD P r0_16) (.node (amF P r2_6) .nil .nil) (.node (amF P r3_51) .nil .nil)) (.node (amI r1_35) (.node (amD P r3_9) .nil .nil) .nil))) (.node (o97 P) (.node (o161 P) (.node (amI r0_5) (.node (amI r1_67) .nil .nil) (.node (amD P r3_41) .nil .nil)) (.node (amF P r1_24) (.node (amF P r2_38) .nil .nil) .nil)) (.node (o225v14 P) (.node (amI r1_3) (.node (amI r2_17) .nil .nil) (.node (o865 P) .nil .nil)) (.node (amD P r1_46) (.node (amF P r3_19) .nil .nil) .nil)))) (.node (o49 P) (.node (o81 P) (.node (o145 P) (.node (amD P r0_0) (.node (amD P r1_62) .nil .nil) (.node (amF P r3_35) .nil .nil)) (.node (amI r1_19) (.node (amI r2_33) .nil .nil) .nil)) (.node (o209 P) (.node (amI r0_21) (.node (amD P r2_12) .nil .nil) (.node (o849 P) .nil .nil)) (.node (amF P r1_40) (.node (amI r3_14) .nil .nil) .nil))) (.node (o113 P) (.node (o177 P) (.node (amF P r0_10) (.node (amI r2_1) .nil .nil) (.node (amI r3_46) .nil .nil)) (.node (amD P r1_30) (.node (amF P r3_3) .nil .nil) .nil)) (.node (o241 P) (.node (amF P r1_8) (.node (amF P r2_22) .nil .nil) .nil) (.node (amI r1_51) (.node (amD P r3_25) .nil .nil) .nil))))) (.node (o25 P) (.node (o41 P) (.node (o73 P) (.node (o137 P) (.node (o265 P) (.node (amI r1_59) .nil .nil) (.node (amD P r3_33) .nil .nil)) (.node (amF P r1_16) (.node (amF P r2_30) .nil .nil) .nil)) (.node (o201 P) (.node (amF P r0_18) (.node (amI r2_9) .nil .nil) (.node (amI r3_54) .nil .nil)) (.node (amD P r1_38) (.node (amF P r3_11) .nil .nil) .nil))) (.node (o105 P) (.node (o169 P) (.node (amD P r0_8) (.node (amD P r1_70) .nil .nil) (.node (amF P r3_43) .nil .nil)) (.node (amI r1_27) (.node (amD P r3_1) .nil .nil) .nil)) (.node (o233 P) (.node (amD P r1_6) (.node (amD P r2_20) .nil .nil) .nil) (.node (amF P r1_48) (.node (amI r3_22) .nil .nil) .nil)))) (.node (o57 P) (.node (o89 P) (.node (o153 P) (.node (amF P r0_2) (.node (amF P r1_64) .nil .nil) (.node (amI r3_38) .nil .nil)) (.node (amD P r1_22) (.node (amD P r2_36) .nil .nil) .nil)) (.node (o217 P) (.node (amF P r1_0) (.node (amF P r2_14) .nil .nil) (.node (o857 P) .nil .nil)) (.node (amI r1_43) (.node (amD P r3_17) .nil .nil) .nil))) (.node (o121 P) (.node (o185 P) (.node (amI r0_13) (.node (amD P r2_4) .nil .nil) (.node (amD P r3_49) .nil .nil)) (.node (amF P r1_32) (.node (amI r3_6) .nil .nil) .nil)) (.node (o249 P) (.node (amI r1_11) (.node (amI r2_25) .nil .nil) .nil) (.node (amD P r1_54) (.node (amF P r3_27) .nil .nil) .nil)))))) (.node (o13 P) (.node (o21 P) (.node (o37 P) (.node (o69 P) (.node (o133 P) (.node (o261 P) (.node (amD P r1_58) .nil .nil) (.node (amF P r3_31) .nil .nil)) (.node (amI r1_15) (.node (amI r2_29) .nil .nil) .nil)) (.node (o197v1 P) (.node (amI r0_17) (.node (amD P r2_8) .nil .nil) (.node (amD P r3_53) .nil .nil)) (.node (amF P r1_36) (.node (amI r3_10) .nil .nil) .nil))) (.node (o101 P) (.node (o165 P) (.node (amF P r0_6) (.node (amF P r1_68) .nil .nil) (.node (amI r3_42) .nil .nil)) (.node (amD P r1_26) (.node (o677 P) .nil .nil) .nil)) (.node (o229 P) (.node (amF P r1_4) (.node (amF P r2_18) .nil .nil) (.node (o869 P) .nil .nil)) (.node (amI r1_47) (.node (amD P r3_21) .nil .nil) .nil)))) (.node (o53 P) (.node (o85 P) (.node (o149 P) (.node (amI r0_1) (.node (amI r1_63) .nil .nil) (.node (amD P r3_37) .nil .nil)) (.node (amF P r1_20) (.node (amF P r2_34) .nil .nil) .nil)) (.node (o213 P) (.node (amF P r0_22) (.node (amI r2_13) .nil .nil) (.node (o853 P) .nil .nil)) (.node (amD P r1_42) (.node (amF P r3_15) .nil .nil) .nil))) (.node (o117 P) (.node (o181 P) (.node (amD P r0_12) (.node (amF P r2_2) .nil .nil) (.node (amF P r3_47) .nil .nil)) (.node (amI r1_31) (.node (amD P r3_5) .nil .nil) .nil)) (.node (o245 P) (.node (amD P r1_10) (.node (amD P r2_24) .nil .nil) .nil) (.node (amF P r1_52) (.node (amI r3_26) .nil .nil) .nil))))) (.node (o29 P) (.node (o45 P) (.node (o77 P) (.node (o141 P) (.node (o269 P) (.node (amF P r1_60) .nil .nil) (.node (amI r3_34) .nil .nil)) (.node (amD P r1_18) (.node (amD P r2_32) .nil .nil) .nil)) (.node (o205 P) (.node (amD P r0_20) (.node (amF P r2_10) .nil .nil) (.node (amF P r3_55) .nil .nil)) (.node (amI r1_39) (.node (amD P r3_13) .nil .nil) .nil))) (.node (o109 P) (.node (o173 P) (.node (amI r0_9) (.node (amD P r2_0) .nil .nil) (.node (amD P r3_45) .nil .nil)) (.node (amF P r1_28) (.node (amI r3_2) .nil .nil) .nil)) (.node (o237 P) (.node (amI r1_7) (.node (amI r2_21) .nil .nil) .nil) (.node (amD P r1_50) (.node (amF P r3_23) .nil .nil) .nil)))) (.node (o61 P) (.node (o93 P) (.node (o157 P) (.node (amD P r0_4) (.node (amD P r1_66) .nil .nil) (.node (amF P r3_39) .nil .nil)) (.node (amI r1_23) (.node (amI r2_37) .nil .nil) .nil)) (.node (o221 P) (.node (amD P r1_2) (.node (amD P r2_16) .nil .nil) (.node (o861 P) .nil .nil)) (.node (amF P r1_44) (.node (amI r3_18) .nil .nil) .nil))) (.node (o125 P) (.node (o189 P) (.node (amF P r0_14) (.node (amI r2_5) .nil .nil) (.node (amI r3_50) .nil .nil)) (.node (amD P r1_34) (.node (amF P r3_7) .nil .nil) .nil)) (.node (o253 P) (.node (amF P r1_12) (.node (amF P r2_26) .nil .nil) .nil) (.node (amI r1_55) (.node (amD P r3_29) .nil .nil) .nil)))))))) (.node (o2 P) (.node (boot_o_4 P) (.node (boot_o_8 P) (.node (o16 P) (.node (o32 P) (.node (o64 P) (.node (o128 P) (.node (o256 P) (.node (amI r1_56) .nil .nil) (.node (amD P r3_30) .nil .nil)) (.node (amF P r1_13) (.node (amF P r2_27) .nil .nil) .nil)) (.node (o192 P) (.node (amF P r0_15) (.node (amI r2_6) .nil .nil) (.node (amI r3_51) .nil .nil)) (.node (amD P r1_35) (.node (amF P r3_8) .nil .nil) .nil))) (.node (o96 P) (.node (o160 P) (.node (amD P r0_5) (.node (amD P r1_67) .nil .nil) (.node (amF P r3_40) .nil .nil)) (.node (amI r1_24) (.node (amI r2_38) .nil .nil) .nil)) (.node (o224 P) (.node (amD P r1_3) (.node (amD P r2_17) .nil .nil) (.node (o864 P) .nil .nil)) (.node (amF P r1_45) (.node (amI r3_19) .nil .nil) .nil)))) (.node (o48 P) (.node (o80 P) (.node (o144 P) (.node (o272 P) (.node (amF P r1_61) .nil .nil) (.node (amI r3_35) .nil .nil)) (.node (amD P r1_19) (.node (amD P r2_33) .nil .nil) .nil)) (.node (o208 P) (.node (amD P r0_21) (.node (amF P r2_11) .nil .nil) (.node (amF P r3_56) .nil .nil)) (.node (amI r1_40) (.node (amD P r3_14) .nil .nil) .nil))) (.node (o112 P) (.node (o176 P) (.node (amI r0_10) (.node (amD P r2_1) .nil .nil) (.node (amD P r3_46) .nil .nil)) (.node (amF P r1_29) (.node (amI r3_3) .nil .nil) .nil)) (.node (o240 P) (.node (amI r1_8) (.node (amI r2_22) .nil .nil) .nil) (.node (amD P r1_51) (.node (amF P r3_24) .nil .nil) .nil))))) (.node (o24 P) (.node (o40 P) (.node (o72 P) (.node (o136 P) (.node (o264 P) (.node (amD P r1_59) .nil .nil) (.node (amF P r3_32) .nil .nil)) (.node (amI r1_16) (.node (amI r2_30) .nil .nil) .nil)) (.node (o200 P) (.node (amI r0_18) (.node (amD P r2_9) .nil .nil) (.node (amD P r3_54) .nil .nil)) (.node (amF P r1_37) (.node (amI r3_11) .nil .nil) .nil))) (.node (o104 P) (.node (o168 P) (.node (amF P r0_7) (.node (amF P r1_69) .nil .nil) (.node (amI r3_43) .nil .nil)) (.node (amD P r1_27) (.node (amF P r3_0) .nil .nil) .nil)) (.node (o232 P) (.node (amF P r1_5) (.node (amF P r2_19) .nil .nil) (.node (o872 P) .nil .nil)) (.node (amI r1_48) (.node (amD P r3_22) .nil .nil) .nil)))) (.node (o56 P) (.node (o88 P) (.node (o152 P) (.node (amI r0_2) (.node (amI r1_64) .nil .nil) (.node (amD P r3_38) .nil .nil)) (.node (amF P r1_21) (.node (amF P r2_35) .nil .nil) .nil)) (.node (o216 P) (.node (amI r1_0) (.node (amI r2_14) .nil .nil) (.node (o856 P) .nil .nil)) (.node (amD P r1_43) (.node (amF P r3_16) .nil .nil) .nil))) (.node (o120 P) (.node (o184 P) (.node (amD P r0_13) (.node (amF P r2_3) .nil .nil) (.node (amF P r3_48) .nil .nil)) (.node (amI r1_32) (.node (amD P r3_6) .nil .nil) .nil)) (.node (o248 P) (.node (amD P r1_11) (.node (amD P r2_25) .nil .nil) .nil) (.node (amF P r1_53) (.node (amI r3_27) .nil .nil) .nil)))))) (.node (o12v5 P) (.node (o20 P) (.node (o36 P) (.node (o68 P) (.node (o132 P) (.node (o260 P) (.node (amF P r1_57) .nil .nil) (.node (amI r3_31) .nil .nil)) (.node (amD P r1_15) (.node (amD P r2_29) .nil .nil) .nil)) (.node (o196 P) (.node (amD P r0_17) (.node (amF P r2_7) .nil .nil) (.node (amF P r3_52) .nil .nil)) (.node (amI r1_36) (.node (amD P r3_10) .nil .nil) .nil))) (.node (o100 P) (.node (o164 P) (.node (amI r0_6) (.node (amI r1_68) .nil .nil) (.node (amD P r3_42) .nil .nil)) (.node (amF P r1_25) (.node (amF P r2_39) .nil .nil) .nil)) (.node (o228 P) (.node (amI r1_4) (.node (amI r2_18) .nil .nil) (.node (o868 P) .nil .nil)) (.node (amD P r1_47) (.node (amF P r3_20) .nil .nil) .nil)))) (.node (o52 P) (.node (o84 P) (.node (o148 P) (.node (amD P r0_1) (.node (amD P r1_63) .nil .nil) (.node (amF P r3_36) .nil .nil)) (.node (amI r1_20) (.node (amI r2_34) .nil .nil) .nil)) (.node (o212 P) (.node (amI r0_22) (.node (amD P r2_13) .nil .nil) (.node (o852 P) .nil .nil)) (.node (amF P r1_41) (.node (amI r3_15) .nil .nil) .nil))) (.node (o116 P) (.node (o180 P) (.node (amF P r0_11) (.node (amI r2_2) .nil .nil) (.node (amI r3_47) .nil .nil)) (.node (amD P r1_31) (.node (amF P r3_4) .nil .nil) .nil)) (.node (o244 P) (.node (amF P r1_9) (.node (amF P r2_23) .nil .nil) .nil) (.node (amI r1_52) (.node (amD P r3_26) .nil .nil) .nil))))) (.node (o28 P) (.node (o44 P) (.node (o76 P) (.node (o140 P) (.node (o268 P) (.node (amI r1_60) .nil .nil) (.node (amD P r3_34) .nil .nil)) (.node (amF P r1_17) (.node (amF P r2_31) .nil .nil) .nil)) (.node (o204 P) (.node (amF P r0_19) (.node (amI r2_10) .nil .nil) (.node (amI r3_55) .nil .nil)) (.node (amD P r1_39) (.node (amF P r3_12) .nil .nil) .nil))) (.node (o108 P) (.node (o172 P) (.node (amD P r0_9) (.node (o556 P) .nil .nil) (.node (amF P r3_44) .nil .nil)) (.node (amI r1_28) (.node (amD P r3_2) .nil .nil) .nil)) (.node (o236 P) (.node (amD P r1_7) (.node (amD P r2_21) .nil .nil) .nil) (.node (amF P r1_49) (.node (amI r3_23) .nil .nil) .nil)))) (.node (o60 P) (.node (o92 P) (.node (o156 P) (.node (amF P r0_3) (.node (amF P r1_65) .nil .nil) (.node (amI r3_39) .nil .nil)) (.node (amD P r1_23) (.node (amD P r2_37) .nil .nil) .nil)) (.node (o220 P) (.node (amF P r1_1) (.node (amF P r2_15) .nil .nil) (.node (o860 P) .nil .nil)) (.node (amI r1_44) (.node (amD P r3_18) .nil .nil) .nil))) (.node (o124 P) (.node (o188 P) (.node (amI r0_14) (.node (amD P r2_5) .nil .nil) (.node (amD P r3_50) .nil .nil)) (.node (amF P r1_33) (.node (amI r3_7) .nil .nil) .nil)) (.node (o252 P) (.node (amI r1_12) (.node (amI r2_26) .nil .nil) .nil) (.node (amD P r1_55) (.node (amF P r3_28) .nil .nil) .nil))))))) (.node (boot_o_6 P) (.node (boot_o_10 P) (.node (o18 P) (.node (o34 P) (.node (o66 P) (.node (o130 P) (.node (o258 P) (.node (amD P r1_57) .nil .nil) (.node (amF P r3_30) .nil .nil)) (.node (amI r1_14) (.node (amI r2_28) .nil .nil) .nil)) (.node (o194 P) (.node (amI r0_16) (.node (amD P r2_7) .nil .nil) (.node (amD P r3_52) .nil .nil)) (.node (amF P r1_35) (.node (amI r3_9) .nil .nil) .nil))) (.node (o98 P) (.node (o162 P) (.node (amF P r0_5) (.node (amF P r1_67) .nil .nil) (.node (amI r3_41) .nil .nil)) (.node (amD P r1_25) (.node (amD P r2_39) .nil .nil) .nil)) (.node (o226 P) (.node (amF P r1_3) (.node (amF P r2_17) .nil .nil) (.node (o866 P) .nil .nil)) (.node (amI r1_46) (.node (amD P r3_20) .nil .nil) .nil)))) (.node (o50 P) (.node (o82 P) (.node (o146 P) (.node (amI r0_0) (.node (amI r1_62) .nil .nil) (.node (amD P r3_36) .nil .nil)) (.node (amF P r1_19) (.node (amF P r2_33) .nil .nil) .nil)) (.node (o210 P) (.node (amF P r0_21) (.node (amI r2_12) .nil .nil) (.node (o850 P) .nil .nil)) (.node (amD P r1_41) (.node (amF P r3_14) .nil .nil) .nil))) (.node (o114 P) (.node (o178 P) (.node (amD P r0_11) (.node (amF P r2_1) .nil .nil) (.node (amF P r3_46) .nil .nil)) (.node (amI r1_30) (.node (amD P r3_4) .nil .nil) .nil)) (.node (o242 P) (.node (amD P r1_9) (.node (amD P r2_23) .nil .nil) .nil) (.node (amF P r1_51) (.node (amI r3_25) .nil .nil) .nil))))) (.node (o26 P) (.node (o42 P) (.node (o74 P) (.node (o138 P) (.node (o266 P) (.node (amF P r1_59) .nil .nil) (.node (amI r3_33) .nil .nil)) (.node (amD P r1_17) (.node (amD P r2_31) .nil .nil) .nil)) (.node (o202 P) (.node (amD P r0_19) (.node (amF P r2_9) .nil .nil) (.node (amF P r3_54) .nil .nil)) (.node (amI r1_38) (.node (amD P r3_12) .nil .nil) .nil))) (.node (o106 P) (.node (o170 P) (.node (amI r0_8) (.node (amI r1_70) .nil .nil) (.node (amD P r3_44) .nil .nil)) (.node (amF P r1_27) (.node (amI r3_1) .nil .nil) .nil)) (.node (o234 P) (.node (amI r1_6) (.node (amI r2_20) .nil .nil) .nil) (.node (amD P r1_49) (.node (amF P r3_22) .nil .nil) .nil)))) (.node (o58 P) (.node (o90 P) (.node (o154 P) (.node (amD P r0_3) (.node (amD P r1_65) .nil .nil) (.node (amF P r3_38) .nil .nil)) (.node (amI r1_22) (.node (amI r2_36) .nil .nil) .nil)) (.node (o218 P) (.node (amD P r1_1) (.node (amD P r2_15) .nil .nil) (.node (o858 P) .nil .nil)) (.node (amF P r1_43) (.node (amI r3_17) .nil .nil) .nil))) (.node (o122 P) (.node (o186 P) (.node (amF P r0_13) (.node (amI r2_4) .nil .nil) (.node (amI r3_49) .nil .nil)) (.node (amD P r1_33) (.node (amF P r3_6) .nil .nil) .nil)) (.node (o250 P) (.node (amF P r1_11) (.node (amF P r2_25) .nil .nil) .nil) (.node (amI r1_54) (.node (amD P r3_28) .nil .nil) .nil)))))) (.node (o14 P) (.node (o22 P) (.node (o38 P) (.node (o70 P) (.node (o134 P) (.node (o262 P) (.node (amI r1_58) .nil .nil) (.node (amD P r3_32) .nil .nil)) (.node (amF P r1_15) (.node (amF P r2_29) .nil .nil) .nil)) (.node (o198 P) (.node (amF P r0_17) (.node (amI r2_8) .nil .nil) (.node (amI r3_53) .nil .nil)) (.node (amD P r1_37) (.node (amF P r3_10) .nil .nil) .nil))) (.node (o102 P) (.node (o166 P) (.node (amD P r0_7) (.node (amD P r1_69) .nil .nil) (.node (amF P r3_42) .nil .nil)) (.node (amI r1_26) (.node (amD P r3_0) .nil .nil) .nil)) (.node (oSet P) (.node (amD P r1_5) (.node (amD P r2_19) .nil .nil) (.node (o870 P) .nil .nil)) (.node (amF P r1_47) (.node (amI r3_21) .nil .nil) .nil)))) (.node (o54 P) (.node (o86 P) (.node (o150 P) (.node (amF P r0_1) (.node (amF P r1_63) .nil .nil) (.node (amI r3_37) .nil .nil)) (.node (amD P r1_21) (.node (amD P r2_35) .nil .nil) .nil)) (.node (o214 P) (.node (o342 P) (.node (amF P r2_13) .nil .nil) (.node (o854 P) .nil .nil)) (.node (amI r1_42) (.node (amD P r3_16) .nil .nil) .nil))) (.node (o118 P) (.node (o182 P) (.node (amI r0_12) (.node (amD P r2_3) .nil .nil) (.node (amD P r3_48) .nil .nil)) (.node (amF P r1_31) (.node (amI r3_5) .nil .nil) .nil)) (.node (o246 P) (.node (amI r1_10) (.node (amI r2_24) .nil .nil) .nil) (.node (amD P r1_53) (.node (amF P r3_26) .nil .nil) .nil))))) (.node (o30 P) (.node (o46 P) (.node (o78 P) (.node (o142 P) (.node (o270 P) (.node (amD P r1_61) .nil .nil) (.node (amF P r3_34) .nil .nil)) (.node (amI r1_18) (.node (amI r2_32) .nil .nil) .nil)) (.node (o206 P) (.node (amI r0_20) (.node (amD P r2_11) .nil .nil) (.node (amD P r3_56) .nil .nil)) (.node (amF P r1_39) (.node (amI r3_13) .nil .nil) .nil))) (.node (o110 P) (.node (o174 P) (.node (amF P r0_9) (.node (amI r2_0) .nil .nil) (.node (amI r3_45) .nil .nil)) (.node (amD P r1_29) (.node (amF P r3_2) .nil .nil) .nil)) (.node (o238 P) (.node (amF P r1_7) (.node (amF P r2_21) .nil .nil) .nil) (.node (amI r1_50) (.node (amD P r3_24) .nil .nil) .nil)))) (.node (o62 P) (.node (o94 P) (.node (o158 P) (.node (amI r0_4) (.node (amI r1_66) .nil .nil) (.node (amD P r3_40) .nil .nil)) (.node (amF P r1_23) (.node (amF P r2_37) .nil .nil) .nil)) (.node (o222 P) (.node (amI r1_2) (.node (amI r2_16) .nil .nil) (.node (o862 P) .nil .nil)) (.node (amD P r1_45) (.node (amF P r3_18) .nil .nil) .nil))) (.node (o126 P) (.node (o190 P) (.node (amD P r0_15) (.node (amF P r2_5) .nil .nil) (.node (amF P r3_50) .nil .nil)) (.node (amI r1_34) (.node (amD P r3_8) .nil .nil) .nil)) (.node (o254 P) (.node (amD P r1_13) (.node (amD P r2_27) .nil .nil) .nil) (.node (amF P r1_55) (.node (amI r3_29) .nil .nil) .nil)))))))))
noncomputable def SG17 (w : World) (os : OsState) : SharedT := ⟨TG17 w.params, 873, {}, #[], boot_drawn, 3360, os⟩
noncomputable def TH (P : Params) : BT := (.node (boot_o_0 P) (.node (boot_o_1 P) (.node (o3v21 P) (.node (boot_o_7 P) (.node (o15 P) (.node (o31 P) (.node (o63 P) (.node (o127 P) (.node (o255 P) (.node (amD P r1_56) .nil .nil) (.node (amF P r3_29) .nil .nil)) (.node (amI r1_13) (.node (amI r2_27) .nil .nil) (.node (o895 P) .nil .nil))) (.node (o191 P) (.node (amI r0_15) (.node (amD P r2_6) .nil .nil) (.node (amD P r3_51) .nil .nil)) (.node (amF P r1_34) (.node (amI r3_8) .nil .nil) .nil))) (.node (o95 P) (.node (o159 P) (.node (amF P r0_4) (.node (amF P r1_66) .nil .nil) (.node (amI r3_40) .nil .nil)) (.node (amD P r1_24) (.node (amD P r2_38) .nil .nil) .nil)) (.node (o223 P) (.node (amF P r1_2) (.node (amF P r2_16) .nil .nil) (.node (o863 P) .nil .nil)) (.node (amI r1_45) (.node (amD P r3_19) .nil .nil) .nil)))) (.node (o47 P) (.node (o79 P) (.node (o143 P) (.node (o271 P) (.node (amI r1_61) .nil .nil) (.node (amD P r3_35) .nil .nil)) (.node (amF P r1_18) (.node (amF P r2_32) .nil .nil) .nil)) (.node (o207 P) (.node (amF P r0_20) (.node (amI r2_11) .nil .nil) (.node (amI r3_56) .nil .nil)) (.node (amD P r1_40) (.node (amF P r3_13) .nil .nil) .nil))) (.node (o111 P) (.node (o175 P) (.node (amD P r0_10) (.node (amF P r2_0) .nil .nil) (.node (amF P r3_45) .nil .nil)) (.node (amI r1_29) (.node (amD P r3_3) .nil .nil) .nil)) (.node (o239 P) (.node (amD P r1_8) (.node (amD P r2_22) .nil .nil) (.node (o879 P) .nil .nil)) (.node (amF P r1_50) (.node (amI r3_24) .nil .nil) .nil))))) (.node (o23 P) (.node (o39 P) (.node (o71 P) (.node (o135 P) (.node (o263 P) (.node (amF P r1_58) .nil .nil) (.node (amI r3_32) .nil .nil)) (.node (amD P r1_16) (.node (amD P r2_30) .nil .nil) .nil)) (.node (o199 P) (.node (amD P r0_18) (.node (amF P r2_8) .nil .nil) (.node (amF P r3_53) .nil .nil)) (.node (amI r1_37) (.node (amD P r3_11) .nil .nil) .nil))) (.node (o103 P) (.node (o167 P) (.node (amI r0_7) (.node (amI r1_69) .nil .nil) (.node (amD P r3_43) .nil .nil)) (.node (amF P r1_26) (.node (amI r3_0) .nil .nil) .nil)) (.node (o231 P) (.node (amI r1_5) (.node (amI r2_19) .nil .nil) (.node (o871 P) .nil .nil)) (.node (amD P r1_48) (.node (amF P r3_21) .nil .nil) .nil)))) (.node (o55 P) (.node (o87 P) (.node (o151 P) (.node (amD P r0_2) (.node (amD P r1_64) .nil .nil) (.node (amF P r3_37) .nil .nil)) (.node (amI r1_21) (.node (amI r2_35) .nil .nil) .nil)) (.node (o215 P) (.node (amD P r1_0) (.node (amD P r2_14) .nil .nil) (.node (o855 P) .nil .nil)) (.node (amF P r1_42) (.node (amI r3_16) .nil .nil) .nil))) (.node (o119 P) (.node (o183 P) (.node (amF P r0_12) (.node (amI r2_3) .nil .nil) (.node (amI r3_48) .nil .nil)) (.node (amD P r1_32) (.node (amF P r3_5) .nil .nil) .nil)) (.node (o247 P) (.node (amF P r1_10) (.node (amF P r2_24) .nil .nil) (.node (o887 P) .nil .nil)) (.node (amI r1_53) (.node (amD P r3_27) .nil .nil) .nil)))))) (.node (o11 P) (.node (o19 P) (.node (o35 P) (.node (o67 P) (.node (o131 P) (.node (o259 P) (.node (amI r1_57) .nil .nil) (.node (amD P r3_31) .nil .nil)) (.node (amF P r1_14) (.node (amF P r2_28) .nil .nil) .nil)) (.node (o195 P) (.node (amF P r0_16) (.node (amI r2_7) .nil .nil) (.node (amI r3_52) .nil .nil)) (.node (amD P r1_36) (.node (amF P r3_9) .nil .nil) .nil))) (.node (o99 P) (.node (o163 P) (.node (amD P r0_6) (.node (amD P r1_68) .nil .nil) (.node (amF P r3_41) .nil .nil)) (.node (amI r1_25) (.node (amI r2_39) .nil .nil) .nil)) (.node (o227v6 P) (.node (amD P r1_4) (.node (amD P r2_18) .nil .nil) (.node (o867 P) .nil .nil)) (.node (amF P r1_46) (.node (amI r3_20) .nil .nil) .nil)))) (.node (o51 P) (.node (o83 P) (.node (o147 P) (.node (amF P r0_0) (.node (amF P r1_62) .nil .nil) (.node (amI r3_36) .nil .nil)) (.node (amD P r1_20) (.node (amD P r2_34) .nil .nil) .nil)) (.node (o211 P) (.node (amD P r0_22) (.node (amF P r2_12) .nil .nil) (.node (o851 P) .nil .nil)) (.node (amI r1_41) (.node (amD P r3_15) .nil .nil) .nil))) (.node (o115 P) (.node (o179 P) (.node (amI r0_11) (.node (amD P r2_2) .nil .nil) (.node (amD P r3_47) .nil .nil)) (.node (amF P r1_30) (.node (amI r3_4) .nil .nil) .nil)) (.node (o243 P) (.node (amI r1_9) (.node (amI r2_23) .nil .nil) (.node (o883 P) .nil .nil)) (.node (amD P r1_52) (.node (amF P r3_25) .nil .nil) .nil))))) (.node (o27 P) (.node (o43 P) (.node (o75 P) (.node (o139 P) (.node (o267 P) (.node (amD P r1_60) .nil .nil) (.node (amF P r3_33) .nil .nil)) (.node (amI r1_17) (.node (amI r2_31) .nil .nil) .nil)) (.node (o203 P) (.node (amI r0_19) (.node (amD P r2_10) .nil .nil) (.node (amD P r3_55) .nil .nil)) (.node (amF P r1_38) (.node (amI r3_12) .nil .nil) .nil))) (.node (o107 P) (.node (o171 P) (.node (amF P r0_8) (.node (amF P r1_70) .nil .nil) (.node (amI r3_44) .nil .nil)) (.node (amD P r1_28) (.node (amF P r3_1) .nil .nil) .nil)) (.node (o235 P) (.node (amF P r1_6) (.node (amF P r2_20) .nil .nil) (.node (o875 P) .nil .nil)) (.node (amI r1_49) (.node (amD P r3_23) .nil .nil) .nil)))) (.node (o59 P) (.node (o91 P) (.node (o155 P) (.node (amI r0_3) (.node (amI r1_65) .nil .nil) (.node (amD P r3_39) .nil .nil)) (.node (amF P r1_22) (.node (amF P r2_36) .nil .nil) .nil)) (.node (o219 P) (.node (amI r1_1) (.node (amI r2_15) .nil .nil) (.node (o859 P) .nil .nil)) (.node (amD P r1_44) (.node (amF P r3_17) .nil .nil) .nil))) (.node (o123 P) (.node (o187 P) (.node (amD P r0_14) (.node (amF P r2_4) .nil .nil) (.node (amF P r3_49) .nil .nil)) (.node (amI r1_33) (.node (amD P r3_7) .nil .nil) .nil)) (.node (o251 P) (.node (amD P r1_12) (.node (amD P r2_26) .nil .nil) (.node (o891 P) .nil .nil)) (.node (amF P r1_54) (.node (amI r3_28) .nil .nil) .nil))))))) (.node (boot_o_5 P) (.node (boot_o_9 P) (.node (o17 P) (.node (o33 P) (.node (o65 P) (.node (o129 P) (.node (o257 P) (.node (amF P r1_56) .nil .nil) (.node (amI r3_30) .nil .nil)) (.node (amD P r1_14) (.node (amD P r2_28) .nil .nil) (.node (o897 P) .nil .nil))) (.node (o193 P) (.node (amD P r0_16) (.node (amF P r2_6) .nil .nil) (.node (amF P r3_51) .nil .nil)) (.node (amI r1_35) (.node (amD P r3_9) .nil .nil) .nil))) (.node (o97 P) (.node (o161 P) (.node (amI r0_5) (.node (amI r1_67) .nil .nil) (.node (amD P r3_41) .nil .nil)) (.node (amF P r1_24) (.node (amF P r2_38) .nil .nil) .nil)) (.node (o225v14 P) (.node (amI r1_3) (.node (amI r2_17) .nil .nil) (.node (o865 P) .nil .nil)) (.node (amD P r1_46) (.node (amF P r3_19) .nil .nil) .nil)))) (.node (o49 P) (.node (o81 P) (.node (o145 P) (.node (amD P r0_0) (.node (amD P r1_62) .nil .nil) (.node (amF P r3_35) .nil .nil)) (.node (amI r1_19) (.node (amI r2_33) .nil .nil) .nil)) (.node (o209 P) (.node (amI r0_21) (.node (amD P r2_12) .nil .nil) (.node (o849 P) .nil .nil)) (.node (amF P r1_40) (.node (amI r3_14) .nil .nil) .nil))) (.node (o113 P) (.node (o177 P) (.node (amF P r0_10) (.node (amI r2_1) .nil .nil) (.node (amI r3_46) .nil .nil)) (.node (amD P r1_30) (.node (amF P r3_3) .nil .nil) .nil)) (.node (o241 P) (.node (amF P r1_8) (.node (amF P r2_22) .nil .nil) (.node (o881 P) .nil .nil)) (.node (amI r1_51) (.node (amD P r3_25) .nil .nil) .nil))))) (.node (o25 P) (.node (o41 P) (.node (o73 P) (.node (o137 P) (.node (o265 P) (.node (amI r1_59) .nil .nil) (.node (amD P r3_33) .nil .nil)) (.node (amF P r1_16) (.node (amF P r2_30) .nil .nil) .nil)) (.node (o201 P) (.node (amF P r0_18) (.node (amI r2_9) .nil .nil) (.node (amI r3_54) .nil .nil)) (.node (amD P r1_38) (.node (amF P r3_11) .nil .nil) .nil))) (.node (o105 P) (.node (o169 P) (.node (amD P r0_8) (.node (amD P r1_70) .nil .nil) (.node (amF P r3_43) .nil .nil)) (.node (amI r1_27) (.node (amD P r3_1) .nil .nil) .nil)) (.node (o233 P) (.node (amD P r1_6) (.node (amD P r2_20) .nil .nil) (.node (o873 P) .nil .nil)) (.node (amF P r1_48) (.node (amI r3_22) .nil .nil) .nil)))) (.node (o57 P) (.node (o89 P) (.node (o153 P) (.node (amF P r0_2) (.node (amF P r1_64) .nil .nil) (.node (amI r3_38) .nil .nil)) (.node (amD P r1_22) (.node (amD P r2_36) .nil .nil) .nil)) (.node (o217 P) (.node (amF P r1_0) (.node (amF P r2_14) .nil .nil) (.node (o857 P) .nil .nil)) (.node (amI r1_43) (.node (amD P r3_17) .nil .nil) .nil))) (.node (o121 P) (.node (o185 P) (.node (amI r0_13) (.node (amD P r2_4) .nil .nil) (.node (amD P r3_49) .nil .nil)) (.node (amF P r1_32) (.node (amI r3_6) .nil .nil) .nil)) (.node (o249 P) (.node (amI r1_11) (.node (amI r2_25) .nil .nil) (.node (o889 P) .nil .nil)) (.node (amD P r1_54) (.node (amF P r3_27) .nil .nil) .nil)))))) (.node (o13 P) (.node (o21 P) (.node (o37 P) (.node (o69 P) (.node (o133 P) (.node (o261 P) (.node (amD P r1_58) .nil .nil) (.node (amF P r3_31) .nil .nil)) (.node (amI r1_15) (.node (amI r2_29) .nil .nil) .nil)) (.node (o197v1 P) (.node (amI r0_17) (.node (amD P r2_8) .nil .nil) (.node (amD P r3_53) .nil .nil)) (.node (amF P r1_36) (.node (amI r3_10) .nil .nil) .nil))) (.node (o101 P) (.node (o165 P) (.node (amF P r0_6) (.node (amF P r1_68) .nil .nil) (.node (amI r3_42) .nil .nil)) (.node (amD P r1_26) (.node (o677 P) .nil .nil) .nil)) (.node (o229 P) (.node (amF P r1_4) (.node (amF P r2_18) .nil .nil) (.node (o869 P) .nil .nil)) (.node (amI r1_47) (.node (amD P r3_21) .nil .nil) .nil)))) (.node (o53 P) (.node (o85 P) (.node (o149 P) (.node (amI r0_1) (.node (amI r1_63) .nil .nil) (.node (amD P r3_37) .nil .nil)) (.node (amF P r1_20) (.node (amF P r2_34) .nil .nil) .nil)) (.node (o213 P) (.node (amF P r0_22) (.node (amI r2_13) .nil .nil) (.node (o853 P) .nil .nil)) (.node (amD P r1_42) (.node (amF P r3_15) .nil .nil) .nil))) (.node (o117 P) (.node (o181 P) (.node (amD P r0_12) (.node (amF P r2_2) .nil .nil) (.node (amF P r3_47) .nil .nil)) (.node (amI r1_31) (.node (amD P r3_5) .nil .nil) .nil)) (.node (o245 P) (.node (amD P r1_10) (.node (amD P r2_24) .nil .nil) (.node (o885 P) .nil .nil)) (.node (amF P r1_52) (.node (amI r3_26) .nil .nil) .nil))))) (.node (o29 P) (.node (o45 P) (.node (o77 P) (.node (o141 P) (.node (o269 P) (.node (amF P r1_60) .nil .nil) (.node (amI r3_34) .nil .nil)) (.node (amD P r1_18) (.node (amD P r2_32) .nil .nil) .nil)) (.node (o205 P) (.node (amD P r0_20) (.node (amF P r2_10) .nil .nil) (.node (amF P r3_55) .nil .nil)) (.node (amI r1_39) (.node (amD P r3_13) .nil .nil) .nil))) (.node (o109 P) (.node (o173 P) (.node (amI r0_9) (.node (amD P r2_0) .nil .nil) (.node (amD P r3_45) .nil .nil)) (.node (amF P r1_28) (.node (amI r3_2) .nil .nil) .nil)) (.node (o237 P) (.node (amI r1_7) (.node (amI r2_21) .nil .nil) (.node (o877 P) .nil .nil)) (.node (amD P r1_50) (.node (amF P r3_23) .nil .nil) .nil)))) (.node (o61 P) (.node (o93 P) (.node (o157 P) (.node (amD P r0_4) (.node (amD P r1_66) .nil .nil) (.node (amF P r3_39) .nil .nil)) (.node (amI r1_23) (.node (amI r2_37) .nil .nil) .nil)) (.node (o221 P) (.node (amD P r1_2) (.node (amD P r2_16) .nil .nil) (.node (o861 P) .nil .nil)) (.node (amF P r1_44) (.node (amI r3_18) .nil .nil) .nil))) (.node (o125 P) (.node (o189 P) (.node (amF P r0_14) (.node (amI r2_5) .nil .nil) (.node (amI r3_50) .nil .nil)) (.node (amD P r1_34) (.node (amF P r3_7) .nil .nil) .nil)) (.node (o253 P) (.node (amF P r1_12) (.node (amF P r2_26) .nil .nil) (.node (o893 P) .nil .nil)) (.node (amI r1_55) (.node (amD P r3_29) .nil .nil) .nil)))))))) (.node (o2 P) (.node (boot_o_4 P) (.node (boot_o_8 P) (.node (o16 P) (.node (o32 P) (.node (o64 P) (.node (o128 P) (.node (o256 P) (.node (amI r1_56) .nil .nil) (.node (amD P r3_30) .nil .nil)) (.node (amF P r1_13) (.node (amF P r2_27) .nil .nil) (.node (o896 P) .nil .nil))) (.node (o192 P) (.node (amF P r0_15) (.node (amI r2_6) .nil .nil) (.node (amI r3_51) .nil .nil)) (.node (amD P r1_35) (.node (amF P r3_8) .nil .nil) .nil))) (.node (o96 P) (.node (o160 P) (.node (amD P r0_5) (.node (amD P r1_67) .nil .nil) (.node (amF P r3_40) .nil .nil)) (.node (amI r1_24) (.node (amI r2_38) .nil .nil) .nil)) (.node (o224 P) (.node (amD P r1_3) (.node (amD P r2_17) .nil .nil) (.node (o864 P) .nil .nil)) (.node (amF P r1_45) (.node (amI r3_19) .nil .nil) .nil)))) (.node (o48 P) (.node (o80 P) (.node (o144 P) (.node (o272 P) (.node (amF P r1_61) .nil .nil) (.node (amI r3_35) .nil .nil)) (.node (amD P r1_19) (.node (amD P r2_33) .nil .nil) .nil)) (.node (o208 P) (.node (amD P r0_21) (.node (amF P r2_11) .nil .nil) (.node (amF P r3_56) .nil .nil)) (.node (amI r1_40) (.node (amD P r3_14) .nil .nil) .nil))) (.node (o112 P) (.node (o176 P) (.node (amI r0_10) (.node (amD P r2_1) .nil .nil) (.node (amD P r3_46) .nil .nil)) (.node (amF P r1_29) (.node (amI r3_3) .nil .nil) .nil)) (.node (o240 P) (.node (amI r1_8) (.node (amI r2_22) .nil .nil) (.node (o880 P) .nil .nil)) (.node (amD P r1_51) (.node (amF P r3_24) .nil .nil) .nil))))) (.node (o24 P) (.node (o40 P) (.node (o72 P) (.node (o136 P) (.node (o264 P) (.node (amD P r1_59) .nil .nil) (.node (amF P r3_32) .nil .nil)) (.node (amI r1_16) (.node (amI r2_30) .nil .nil) .nil)) (.node (o200 P) (.node (amI r0_18) (.node (amD P r2_9) .nil .nil) (.node (amD P r3_54) .nil .nil)) (.node (amF P r1_37) (.node (amI r3_11) .nil .nil) .nil))) (.node (o104 P) (.node (o168 P) (.node (amF P r0_7) (.node (amF P r1_69) .nil .nil) (.node (amI r3_43) .nil .nil)) (.node (amD P r1_27) (.node (amF P r3_0) .nil .nil) .nil)) (.node (o232 P) (.node (amF P r1_5) (.node (amF P r2_19) .nil .nil) (.node (o872 P) .nil .nil)) (.node (amI r1_48) (.node (amD P r3_22) .nil .nil) .nil)))) (.node (o56 P) (.node (o88 P) (.node (o152 P) (.node (amI r0_2) (.node (amI r1_64) .nil .nil) (.node (amD P r3_38) .nil .nil)) (.node (amF P r1_21) (.node (amF P r2_35) .nil .nil) .nil)) (.node (o216 P) (.node (amI r1_0) (.node (amI r2_14) .nil .nil) (.node (o856 P) .nil .nil)) (.node (amD P r1_43) (.node (amF P r3_16) .nil .nil) .nil))) (.node (o120 P) (.node (o184 P) (.node (amD P r0_13) (.node (amF P r2_3) .nil .nil) (.node (amF P r3_48) .nil .nil)) (.node (amI r1_32) (.node (amD P r3_6) .nil .nil) .nil)) (.node (o248 P) (.node (amD P r1_11) (.node (amD P r2_25) .nil .nil) (.node (o888 P) .nil .nil)) (.node (amF P r1_53) (.node (amI r3_27) .nil .nil) .nil)))))) (.node (o12v9 P) (.node (o20 P) (.node (o36 P) (.node (o68 P) (.node (o132 P) (.node (o260 P) (.node (amF P r1_57) .nil .nil) (.node (amI r3_31) .nil .nil)) (.node (amD P r1_15) (.node (amD P r2_29) .nil .nil) .nil)) (.node (o196 P) (.node (amD P r0_17) (.node (amF P r2_7) .nil .nil) (.node (amF P r3_52) .nil .nil)) (.node (amI r1_36) (.node (amD P r3_10) .nil .nil) .nil))) (.node (o100 P) (.node (o164 P) (.node (amI r0_6) (.node (amI r1_68) .nil .nil) (.node (amD P r3_42) .nil .nil)) (.node (amF P r1_25) (.node (amF P r2_39) .nil .nil) .nil)) (.node (o228 P) (.node (amI r1_4) (.node (amI r2_18) .nil .nil) (.node (o868 P) .nil .nil)) (.node (amD P r1_47) (.node (amF P r3_20) .nil .nil) .nil)))) (.node (o52 P) (.node (o84 P) (.node (o148 P) (.node (amD P r0_1) (.node (amD P r1_63) .nil .nil) (.node (amF P r3_36) .nil .nil)) (.node (amI r1_20) (.node (amI r2_34) .nil .nil) .nil)) (.node (o212 P) (.node (amI r0_22) (.node (amD P r2_13) .nil .nil) (.node (o852 P) .nil .nil)) (.node (amF P r1_41) (.node (amI r3_15) .nil .nil) .nil))) (.node (o116 P) (.node (o180 P) (.node (amF P r0_11) (.node (amI r2_2) .nil .nil) (.node (amI r3_47) .nil .nil)) (.node (amD P r1_31) (.node (amF P r3_4) .nil .nil) .nil)) (.node (o244 P) (.node (amF P r1_9) (.node (amF P r2_23) .nil .nil) (.node (o884 P) .nil .nil)) (.node (amI r1_52) (.node (amD P r3_26) .nil .nil) .nil))))) (.node (o28 P) (.node (o44 P) (.node (o76 P) (.node (o140 P) (.node (o268 P) (.node (amI r1_60) .nil .nil) (.node (amD P r3_34) .nil .nil)) (.node (amF P r1_17) (.node (amF P r2_31) .nil .nil) .nil)) (.node (o204 P) (.node (amF P r0_19) (.node (amI r2_10) .nil .nil) (.node (amI r3_55) .nil .nil)) (.node (amD P r1_39) (.node (amF P r3_12) .nil .nil) .nil))) (.node (o108 P) (.node (o172 P) (.node (amD P r0_9) (.node (o556 P) .nil .nil) (.node (amF P r3_44) .nil .nil)) (.node (amI r1_28) (.node (amD P r3_2) .nil .nil) .nil)) (.node (o236 P) (.node (amD P r1_7) (.node (amD P r2_21) .nil .nil) (.node (o876 P) .nil .nil)) (.node (amF P r1_49) (.node (amI r3_23) .nil .nil) .nil)))) (.node (o60 P) (.node (o92 P) (.node (o156 P) (.node (amF P r0_3) (.node (amF P r1_65) .nil .nil) (.node (amI r3_39) .nil .nil)) (.node (amD P r1_23) (.node (amD P r2_37) .nil .nil) .nil)) (.node (o220 P) (.node (amF P r1_1) (.node (amF P r2_15) .nil .nil) (.node (o860 P) .nil .nil)) (.node (amI r1_44) (.node (amD P r3_18) .nil .nil) .nil))) (.node (o124 P) (.node (o188 P) (.node (amI r0_14) (.node (amD P r2_5) .nil .nil) (.node (amD P r3_50) .nil .nil)) (.node (amF P r1_33) (.node (amI r3_7) .nil .nil) .nil)) (.node (o252 P) (.node (amI r1_12) (.node (amI r2_26) .nil .nil) (.node (o892 P) .nil .nil)) (.node (amD P r1_55) (.node (amF P r3_28) .nil .nil) .nil))))))) (.node (boot_o_6 P) (.node (boot_o_10 P) (.node (o18 P) (.node (o34 P) (.node (o66 P) (.node (o130 P) (.node (o258 P) (.node (amD P r1_57) .nil .nil) (.node (amF P r3_30) .nil .nil)) (.node (amI r1_14) (.node (amI r2_28) .nil .nil) (.node (o898 P) .nil .nil))) (.node (o194 P) (.node (amI r0_16) (.node (amD P r2_7) .nil .nil) (.node (amD P r3_52) .nil .nil)) (.node (amF P r1_35) (.node (amI r3_9) .nil .nil) .nil))) (.node (o98 P) (.node (o162 P) (.node (amF P r0_5) (.node (amF P r1_67) .nil .nil) (.node (amI r3_41) .nil .nil)) (.node (amD P r1_25) (.node (amD P r2_39) .nil .nil) .nil)) (.node (o226 P) (.node (amF P r1_3) (.node (amF P r2_17) .nil .nil) (.node (o866 P) .nil .nil)) (.node (amI r1_46) (.node (amD P r3_20) .nil .nil) .nil)))) (.node (o50 P) (.node (o82 P) (.node (o146 P) (.node (amI r0_0) (.node (amI r1_62) .nil .nil) (.node (amD P r3_36) .nil .nil)) (.node (amF P r1_19) (.node (amF P r2_33) .nil .nil) .nil)) (.node (o210 P) (.node (amF P r0_21) (.node (amI r2_12) .nil .nil) (.node (o850 P) .nil .nil)) (.node (amD P r1_41) (.node (amF P r3_14) .nil .nil) .nil))) (.node (o114 P) (.node (o178 P) (.node (amD P r0_11) (.node (amF P r2_1) .nil .nil) (.node (amF P r3_46) .nil .nil)) (.node (amI r1_30) (.node (amD P r3_4) .nil .nil) .nil)) (.node (o242 P) (.node (amD P r1_9) (.node (amD P r2_23) .nil .nil) (.node (o882 P) .nil .nil)) (.node (amF P r1_51) (.node (amI r3_25) .nil .nil) .nil))))) (.node (o26 P) (.node (o42 P) (.node (o74 P) (.node (o138 P) (.node (o266 P) (.node (amF P r1_59) .nil .nil) (.node (amI r3_33) .nil .nil)) (.node (amD P r1_17) (.node (amD P r2_31) .nil .nil) .nil)) (.node (o202 P) (.node (amD P r0_19) (.node (amF P r2_9) .nil .nil) (.node (amF P r3_54) .nil .nil)) (.node (amI r1_38) (.node (amD P r3_12) .nil .nil) .nil))) (.node (o106 P) (.node (o170 P) (.node (amI r0_8) (.node (amI r1_70) .nil .nil) (.node (amD P r3_44) .nil .nil)) (.node (amF P r1_27) (.node (amI r3_1) .nil .nil) .nil)) (.node (o234 P) (.node (amI r1_6) (.node (amI r2_20) .nil .nil) (.node (o874 P) .nil .nil)) (.node (amD P r1_49) (.node (amF P r3_22) .nil .nil) .nil)))) (.node (o58 P) (.node (o90 P) (.node (o154 P) (.node (amD P r0_3) (.node (amD P r1_65) .nil .nil) (.node (amF P r3_38) .nil .nil)) (.node (amI r1_22) (.node (amI r2_36) .nil .nil) .nil)) (.node (o218 P) (.node (amD P r1_1) (.node (amD P r2_15) .nil .nil) (.node (o858 P) .nil .nil)) (.node (amF P r1_43) (.node (amI r3_17) .nil .nil) .nil))) (.node (o122 P) (.node (o186 P) (.node (amF P r0_13) (.node (amI r2_4) .nil .nil) (.node (amI r3_49) .nil .nil)) (.node (amD P r1_33) (.node (amF P r3_6) .nil .nil) .nil)) (.node (o250 P) (.node (amF P r1_11) (.node (amF P r2_25) .nil .nil) (.node (o890 P) .nil .nil)) (.node (amI r1_54) (.node (amD P r3_28) .nil .nil) .nil)))))) (.node (o14 P) (.node (o22 P) (.node (o38 P) (.node (o70 P) (.node (o134 P) (.node (o262 P) (.node (amI r1_58) .nil .nil) (.node (amD P r3_32) .nil .nil)) (.node (amF P r1_15) (.node (amF P r2_29) .nil .nil) .nil)) (.node (o198 P) (.node (amF P r0_17) (.node (amI r2_8) .nil .nil) (.node (amI r3_53) .nil .nil)) (.node (amD P r1_37) (.node (amF P r3_10) .nil .nil) .nil))) (.node (o102 P) (.node (o166 P) (.node (amD P r0_7) (.node (amD P r1_69) .nil .nil) (.node (amF P r3_42) .nil .nil)) (.node (amI r1_26) (.node (amD P r3_0) .nil .nil) .nil)) (.node (oSet P) (.node (amD P r1_5) (.node (amD P r2_19) .nil .nil) (.node (o870 P) .nil .nil)) (.node (amF P r1_47) (.node (amI r3_21) .nil .nil) .nil)))) (.node (o54 P) (.node (o86 P) (.node (o150 P) (.node (amF P r0_1) (.node (amF P r1_63) .nil .nil) (.node (amI r3_37) .nil .nil)) (.node (amD P r1_21) (.node (amD P r2_35) .nil .nil) .nil)) (.node (o214 P) (.node (o342 P) (.node (amF P r2_13) .nil .nil) (.node (o854 P) .nil .nil)) (.node (amI r1_42) (.node (amD P r3_16) .nil .nil) .nil))) (.node (o118 P) (.node (o182 P) (.node (amI r0_12) (.node (amD P r2_3) .nil .nil) (.node (amD P r3_48) .nil .nil)) (.node (amF P r1_31) (.node (amI r3_5) .nil .nil) .nil)) (.node (o246 P) (.node (amI r1_10) (.node (amI r2_24) .nil .nil) (.node (o886 P) .nil .nil)) (.node (amD P r1_53) (.node (amF P r3_26) .nil .nil) .nil))))) (.node (o30 P) (.node (o46 P) (.node (o78 P) (.node (o142 P) (.node (o270 P) (.node (amD P r1_61) .nil .nil) (.node (amF P r3_34) .nil .nil)) (.node (amI r1_18) (.node (amI r2_32) .nil .nil) .nil)) (.node (o206 P) (.node (amI r0_20) (.node (amD P r2_11) .nil .nil) (.node (amD P r3_56) .nil .nil)) (.node (amF P r1_39) (.node (amI r3_13) .nil .nil) .nil))) (.node (o110 P) (.node (o174 P) (.node (amF P r0_9) (.node (amI r2_0) .nil .nil) (.node (amI r3_45) .nil .nil)) (.node (amD P r1_29) (.node (amF P r3_2) .nil .nil) .nil)) (.node (o238 P) (.node (amF P r1_7) (.node (amF P r2_21) .nil .nil) (.node (o878 P) .nil .nil)) (.node (amI r1_50) (.node (amD P r3_24) .nil .nil) .nil)))) (.node (o62 P) (.node (o94 P) (.node (o158 P) (.node (amI r0_4) (.node (amI r1_66) .nil .nil) (.node (amD P r3_40) .nil .nil)) (.node (amF P r1_23) (.node (amF P r2_37) .nil .nil) .nil)) (.node (o222 P) (.node (amI r1_2) (.node (amI r2_16) .nil .nil) (.node (o862 P) .nil .nil)) (.node (amD P r1_45) (.node (amF P r3_18) .nil .nil) .nil))) (.node (o126 P) (.node (o190 P) (.node (amD P r0_15) (.node (amF P r2_5) .nil .nil) (.node (amF P r3_50) .nil .nil)) (.node (amI r1_34) (.node (amD P r3_8) .nil .nil) .nil)) (.node (o254 P) (.node (amD P r1_13) (.node (amD P r2_27) .nil .nil) (.node (o894 P) .nil .nil)) (.node (amF P r1_55) (.node (amI r3_29) .nil .nil) .nil)))))))))
noncomputable def SH (w : World) (os : OsState) : SharedT := ⟨TH w.params, 899, {}, #[], boot_drawn, 3390, os⟩
noncomputable def TX (P : Params) (o : Obj) : BT := (.node (boot_o_0 P) (.node (boot_o_1 P) (.node (o3v5 P) (.node (boot_o_7 P) (.node (o15 P) (.node (o31 P) (.node (o63 P) (.node (o127 P) .nil .nil) (.node (o191 P) .nil .nil)) (.node (o95 P) (.node (o159 P) .nil .nil) (.node (o223 P) .nil .nil))) (.node (o47 P) (.node (o79 P) (.node (o143 P) .nil .nil) (.node (o207 P) .nil .nil)) (.node (o111 P) (.node (o175 P) .nil .nil) .nil))) (.node (o23 P) (.node (o39 P) (.node (o71 P) (.node (o135 P) .nil .nil) (.node (o199 P) .nil .nil)) (.node (o103 P) (.node (o167 P) .nil .nil) .nil)) (.node (o55 P) (.node (o87 P) (.node (o151 P) .nil .nil) (.node (o215 P) .nil .nil)) (.node (o119 P) (.node (o183 P) .nil .nil) .nil)))) (.node (o11 P) (.node (o19 P) (.node (o35 P) (.node (o67 P) (.node (o131 P) .nil .nil) (.node (o195 P) .nil .nil)) (.node (o99 P) (.node (o163 P) .nil .nil) (.node (o227 P) .nil .nil))) (.node (o51 P) (.node (o83 P) (.node (o147 P) .nil .nil) (.node (o211 P) .nil .nil)) (.node (o115 P) (.node (o179 P) .nil .nil) .nil))) (.node (o27 P) (.node (o43 P) (.node (o75 P) (.node (o139 P) .nil .nil) (.node (o203 P) .nil .nil)) (.node (o107 P) (.node (o171 P) .nil .nil) .nil)) (.node (o59 P) (.node (o91 P) (.node (o155 P) .nil .nil) (.node (o219 P) .nil .nil)) (.node (o123 P) (.node (o187 P) .nil .nil) .nil))))) (.node (boot_o_5 P) (.node (boot_o_9 P) (.node (o17 P) (.node (o33 P) (.node (o65 P) (.node (o129 P) .nil .nil) (.node (o193 P) .nil .nil)) (.node (o97 P) (.node (o161 P) .nil .nil) (.node (o225 P) .nil .nil))) (.node (o49 P) (.node (o81 P) (.node (o145 P) .nil .nil) (.node (o209 P) .nil .nil)) (.node (o113 P) (.node (o177 P) .nil .nil) .nil))) (.node (o25 P) (.node (o41 P) (.node (o73 P) (.node (o137 P) .nil .nil) (.node (o201 P) .nil .nil)) (.node (o105 P) (.node (o169 P) .nil .nil) .nil)) (.node (o57 P) (.node (o89 P) (.node (o153 P) .nil .nil) (.node (o217 P) .nil .nil)) (.node (o121 P) (.node (o185 P) .nil .nil) .nil)))) (.node (o13 P) (.node (o21 P) (.node (o37 P) (.node (o69 P) (.node (o133 P) .nil .nil) (.node (o197 P) .nil .nil)) (.node (o101 P) (.node (o165 P) .nil .nil) (.node (o229 P) .nil .nil))) (.node (o53 P) (.node (o85 P) (.node (o149 P) .nil .nil) (.node (o213 P) .nil .nil)) (.node (o117 P) (.node (o181 P) .nil .nil) .nil))) (.node (o29 P) (.node (o45 P) (.node (o77 P) (.node (o141 P) .nil .nil) (.node (o205 P) .nil .nil)) (.node (o109 P) (.node (o173 P) .nil .nil) .nil)) (.node (o61 P) (.node (o93 P) (.node (o157 P) .nil .nil) (.node (o221 P) .nil .nil)) (.node (o125 P) (.node (o189 P) .nil .nil) .nil)))))) (.node (boot_o_2 P) (.node (boot_o_4 P) (.node (boot_o_8 P) (.node (o16 P) (.node (o32 P) (.node (o64 P) (.node (o128 P) .nil .nil) (.node (o192 P) .nil .nil)) (.node (o96 P) (.node (o160 P) .nil .nil) (.node (o224 P) .nil .nil))) (.node (o48 P) (.node (o80 P) (.node (o144 P) .nil .nil) (.node (o208 P) .nil .nil)) (.node (o112 P) (.node (o176 P) .nil .nil) .nil))) (.node (o24 P) (.node (o40 P) (.node (o72 P) (.node (o136 P) .nil .nil) (.node (o200 P) .nil .nil)) (.node (o104 P) (.node (o168 P) .nil .nil) .nil)) (.node (o56 P) (.node (o88 P) (.node (o152 P) .nil .nil) (.node (o216 P) .nil .nil)) (.node (o120 P) (.node (o184 P) .nil .nil) .nil)))) (.node (o12v4 P) (.node (o20 P) (.node (o36 P) (.node (o68 P) (.node (o132 P) .nil .nil) (.node (o196 P) .nil .nil)) (.node (o100 P) (.node (o164 P) .nil .nil) (.node (o228 P) .nil .nil))) (.node (o52 P) (.node (o84 P) (.node (o148 P) .nil .nil) (.node (o212 P) .nil .nil)) (.node (o116 P) (.node (o180 P) .nil .nil) .nil))) (.node (o28 P) (.node (o44 P) (.node (o76 P) (.node (o140 P) .nil .nil) (.node (o204 P) .nil .nil)) (.node (o108 P) (.node (o172 P) .nil .nil) .nil)) (.node (o60 P) (.node (o92 P) (.node (o156 P) .nil .nil) (.node (o220 P) .nil .nil)) (.node (o124 P) (.node (o188 P) .nil .nil) .nil))))) (.node (boot_o_6 P) (.node (boot_o_10 P) (.node (o18 P) (.node (o34 P) (.node (o66 P) (.node (o130 P) .nil .nil) (.node (o194 P) .nil .nil)) (.node (o98 P) (.node (o162 P) .nil .nil) (.node (o226 P) .nil .nil))) (.node (o50 P) (.node (o82 P) (.node (o146 P) .nil .nil) (.node (o210 P) .nil .nil)) (.node (o114 P) (.node (o178 P) .nil .nil) .nil))) (.node (o26 P) (.node (o42 P) (.node (o74 P) (.node (o138 P) .nil .nil) (.node (o202 P) .nil .nil)) (.node (o106 P) (.node (o170 P) .nil .nil) .nil)) (.node (o58 P) (.node (o90 P) (.node (o154 P) .nil .nil) (.node (o218 P) .nil .nil)) (.node (o122 P) (.node (o186 P) .nil .nil) .nil)))) (.node (o14 P) (.node (o22 P) (.node (o38 P) (.node (o70 P) (.node (o134 P) .nil .nil) (.node (o198 P) .nil .nil)) (.node (o102 P) (.node (o166 P) .nil .nil) (.node o .nil .nil))) (.node (o54 P) (.node (o86 P) (.node (o150 P) .nil .nil) (.node (o214 P) .nil .nil)) (.node (o118 P) (.node (o182 P) .nil .nil) .nil))) (.node (o30 P) (.node (o46 P) (.node (o78 P) (.node (o142 P) .nil .nil) (.node (o206 P) .nil .nil)) (.node (o110 P) (.node (o174 P) .nil .nil) .nil)) (.node (o62 P) (.node (o94 P) (.node (o158 P) .nil .nil) (.node (o222 P) .nil .nil)) (.node (o126 P) (.node (o190 P) .nil .nil) .nil)))))))
noncomputable def SX (w : World) (os : OsState) (o : Obj) (k : Nat) : SharedT := ⟨TX w.params o, 231, {}, #[], boot_drawn, k, os⟩
noncomputable def HH (P : Params) : Heap := ⟨((boot_o_0 P) :: (boot_o_1 P) :: (o2 P) :: (o3v21 P) :: (boot_o_4 P) :: (boot_o_5 P) :: (boot_o_6 P) :: (boot_o_7 P) :: (boot_o_8 P) :: (boot_o_9 P) :: (boot_o_10 P) :: (o11 P) :: (o12v9 P) :: (o13 P) :: (o14 P) :: (o15 P) :: (o16 P) :: (o17 P) :: (o18 P) :: (o19 P) :: (o20 P) :: (o21 P) :: (o22 P) :: (o23 P) :: (o24 P) :: (o25 P) :: (o26 P) :: (o27 P) :: (o28 P) :: (o29 P) :: (o30 P) :: (o31 P) :: (o32 P) :: (o33 P) :: (o34 P) :: (o35 P) :: (o36 P) :: (o37 P) :: (o38 P) :: (o39 P) :: (o40 P) :: (o41 P) :: (o42 P) :: (o43 P) :: (o44 P) :: (o45 P) :: (o46 P) :: (o47 P) :: (o48 P) :: (o49 P) :: (o50 P) :: (o51 P) :: (o52 P) :: (o53 P) :: (o54 P) :: (o55 P) :: (o56 P) :: (o57 P) :: (o58 P) :: (o59 P) :: (o60 P) :: (o61 P) :: (o62 P) :: (o63 P) :: (o64 P) :: (o65 P) :: (o66 P) :: (o67 P) :: (o68 P) :: (o69 P) :: (o70 P) :: (o71 P) :: (o72 P) :: (o73 P) :: (o74 P) :: (o75 P) :: (o76 P) :: (o77 P) :: (o78 P) :: (o79 P) :: (o80 P) :: (o81 P) :: (o82 P) :: (o83 P) :: (o84 P) :: (o85 P) :: (o86 P) :: (o87 P) :: (o88 P) :: (o89 P) :: (o90 P) :: (o91 P) :: (o92 P) :: (o93 P) :: (o94 P) :: (o95 P) :: (o96 P) :: (o97 P) :: (o98 P) :: (o99 P) :: (o100 P) :: (o101 P) :: (o102 P) :: (o103 P) :: (o104 P) :: (o105 P) :: (o106 P) :: (o107 P) :: (o108 P) :: (o109 P) :: (o110 P) :: (o111 P) :: (o112 P) :: (o113 P) :: (o114 P) :: (o115 P) :: (o116 P) :: (o117 P) :: (o118 P) :: (o119 P) :: (o120 P) :: (o121 P) :: (o122 P) :: (o123 P) :: (o124 P) :: (o125 P) :: (o126 P) :: (o127 P) :: (o128 P) :: (o129 P) :: (o130 P) :: (o131 P) :: (o132 P) :: (o133 P) :: (o134 P) :: (o135 P) :: (o136 P) :: (o137 P) :: (o138 P) :: (o139 P) :: (o140 P) :: (o141 P) :: (o142 P) :: (o143 P) :: (o144 P) :: (o145 P) :: (o146 P) :: (o147 P) :: (o148 P) :: (o149 P) :: (o150 P) :: (o151 P) :: (o152 P) :: (o153 P) :: (o154 P) :: (o155 P) :: (o156 P) :: (o157 P) :: (o158 P) :: (o159 P) :: (o160 P) :: (o161 P) :: (o162 P) :: (o163 P) :: (o164 P) :: (o165 P) :: (o166 P) :: (o167 P) :: (o168 P) :: (o169 P) :: (o170 P) :: (o171 P) :: (o172 P) :: (o173 P) :: (o174 P) :: (o175 P) :: (o176 P) :: (o177 P) :: (o178 P) :: (o179 P) :: (o180 P) :: (o181 P) :: (o182 P) :: (o183 P) :: (o184 P) :: (o185 P) :: (o186 P) :: (o187 P) :: (o188 P) :: (o189 P) :: (o190 P) :: (o191 P) :: (o192 P) :: (o193 P) :: (o194 P) :: (o195 P) :: (o196 P) :: (o197v1 P) :: (o198 P) :: (o199 P) :: (o200 P) :: (o201 P) :: (o202 P) :: (o203 P) :: (o204 P) :: (o205 P) :: (o206 P) :: (o207 P) :: (o208 P) :: (o209 P) :: (o210 P) :: (o211 P) :: (o212 P) :: (o213 P) :: (o214 P) :: (o215 P) :: (o216 P) :: (o217 P) :: (o218 P) :: (o219 P) :: (o220 P) :: (o221 P) :: (o222 P) :: (o223 P) :: (o224 P) :: (o225v14 P) :: (o226 P) :: (o227v6 P) :: (o228 P) :: (o229 P) :: (oSet P) :: (o231 P) :: (o232 P) :: (o233 P) :: (o234 P) :: (o235 P) :: (o236 P) :: (o237 P) :: (o238 P) :: (o239 P) :: (o240 P) :: (o241 P) :: (o242 P) :: (o243 P) :: (o244 P) :: (o245 P) :: (o246 P) :: (o247 P) :: (o248 P) :: (o249 P) :: (o250 P) :: (o251 P) :: (o252 P) :: (o253 P) :: (o254 P) :: (o255 P) :: (o256 P) :: (o257 P) :: (o258 P) :: (o259 P) :: (o260 P) :: (o261 P) :: (o262 P) :: (o263 P) :: (o264 P) :: (o265 P) :: (o266 P) :: (o267 P) :: (o268 P) :: (o269 P) :: (o270 P) :: (o271 P) :: (o272 P) :: (amD P r0_0) :: (amI r0_0) :: (amF P r0_0) :: (amD P r0_1) :: (amI r0_1) :: (amF P r0_1) :: (amD P r0_2) :: (amI r0_2) :: (amF P r0_2) :: (amD P r0_3) :: (amI r0_3) :: (amF P r0_3) :: (amD P r0_4) :: (amI r0_4) :: (amF P r0_4) :: (amD P r0_5) :: (amI r0_5) :: (amF P r0_5) :: (amD P r0_6) :: (amI r0_6) :: (amF P r0_6) :: (amD P r0_7) :: (amI r0_7) :: (amF P r0_7) :: (amD P r0_8) :: (amI r0_8) :: (amF P r0_8) :: (amD P r0_9) :: (amI r0_9) :: (amF P r0_9) :: (amD P r0_10) :: (amI r0_10) :: (amF P r0_10) :: (amD P r0_11) :: (amI r0_11) :: (amF P r0_11) :: (amD P r0_12) :: (amI r0_12) :: (amF P r0_12) :: (amD P r0_13) :: (amI r0_13) :: (amF P r0_13) :: (amD P r0_14) :: (amI r0_14) :: (amF P r0_14) :: (amD P r0_15) :: (amI r0_15) :: (amF P r0_15) :: (amD P r0_16) :: (amI r0_16) :: (amF P r0_16) :: (amD P r0_17) :: (amI r0_17) :: (amF P r0_17) :: (amD P r0_18) :: (amI r0_18) :: (amF P r0_18) :: (amD P r0_19) :: (amI r0_19) :: (amF P r0_19) :: (amD P r0_20) :: (amI r0_20) :: (amF P r0_20) :: (amD P r0_21) :: (amI r0_21) :: (amF P r0_21) :: (amD P r0_22) :: (amI r0_22) :: (amF P r0_22) :: (o342 P) :: (amD P r1_0) :: (amI r1_0) :: (amF P r1_0) :: (amD P r1_1) :: (amI r1_1) :: (amF P r1_1) :: (amD P r1_2) :: (amI r1_2) :: (amF P r1_2) :: (amD P r1_3) :: (amI r1_3) :: (amF P r1_3) :: (amD P r1_4) :: (amI r1_4) :: (amF P r1_4) :: (amD P r1_5) :: (amI r1_5) :: (amF P r1_5) :: (amD P r1_6) :: (amI r1_6) :: (amF P r1_6) :: (amD P r1_7) :: (amI r1_7) :: (amF P r1_7) :: (amD P r1_8) :: (amI r1_8) :: (amF P r1_8) :: (amD P r1_9) :: (amI r1_9) :: (amF P r1_9) :: (amD P r1_10) :: (amI r1_10) :: (amF P r1_10) :: (amD P r1_11) :: (amI r1_11) :: (amF P r1_11) :: (amD P r1_12) :: (amI r1_12) :: (amF P r1_12) :: (amD P r1_13) :: (amI r1_13) :: (amF P r1_13) :: (amD P r1_14) :: (amI r1_14) :: (amF P r1_14) :: (amD P r1_15) :: (amI r1_15) :: (amF P r1_15) :: (amD P r1_16) :: (amI r1_16) :: (amF P r1_16) :: (amD P r1_17) :: (amI r1_17) :: (amF P r1_17) :: (amD P r1_18) :: (amI r1_18) :: (amF P r1_18) :: (amD P r1_19) :: (amI r1_19) :: (amF P r1_19) :: (amD P r1_20) :: (amI r1_20) :: (amF P r1_20) :: (amD P r1_21) :: (amI r1_21) :: (amF P r1_21) :: (amD P r1_22) :: (amI r1_22) :: (amF P r1_22) :: (amD P r1_23) :: (amI r1_23) :: (amF P r1_23) :: (amD P r1_24) :: (amI r1_24) :: (amF P r1_24) :: (amD P r1_25) :: (amI r1_25) :: (amF P r1_25) :: (amD P r1_26) :: (amI r1_26) :: (amF P r1_26) :: (amD P r1_27) :: (amI r1_27) :: (amF P r1_27) :: (amD P r1_28) :: (amI r1_28) :: (amF P r1_28) :: (amD P r1_29) :: (amI r1_29) :: (amF P r1_29) :: (amD P r1_30) :: (amI r1_30) :: (amF P r1_30) :: (amD P r1_31) :: (amI r1_31) :: (amF P r1_31) :: (amD P r1_32) :: (amI r1_32) :: (amF P r1_32) :: (amD P r1_33) :: (amI r1_33) :: (amF P r1_33) :: (amD P r1_34) :: (amI r1_34) :: (amF P r1_34) :: (amD P r1_35) :: (amI r1_35) :: (amF P r1_35) :: (amD P r1_36) :: (amI r1_36) :: (amF P r1_36) :: (amD P r1_37) :: (amI r1_37) :: (amF P r1_37) :: (amD P r1_38) :: (amI r1_38) :: (amF P r1_38) :: (amD P r1_39) :: (amI r1_39) :: (amF P r1_39) :: (amD P r1_40) :: (amI r1_40) :: (amF P r1_40) :: (amD P r1_41) :: (amI r1_41) :: (amF P r1_41) :: (amD P r1_42) :: (amI r1_42) :: (amF P r1_42) :: (amD P r1_43) :: (amI r1_43) :: (amF P r1_43) :: (amD P r1_44) :: (amI r1_44) :: (amF P r1_44) :: (amD P r1_45) :: (amI r1_45) :: (amF P r1_45) :: (amD P r1_46) :: (amI r1_46) :: (amF P r1_46) :: (amD P r1_47) :: (amI r1_47) :: (amF P r1_47) :: (amD P r1_48) :: (amI r1_48) :: (amF P r1_48) :: (amD P r1_49) :: (amI r1_49) :: (amF P r1_49) :: (amD P r1_50) :: (amI r1_50) :: (amF P r1_50) :: (amD P r1_51) :: (amI r1_51) :: (amF P r1_51) :: (amD P r1_52) :: (amI r1_52) :: (amF P r1_52) :: (amD P r1_53) :: (amI r1_53) :: (amF P r1_53) :: (amD P r1_54) :: (amI r1_54) :: (amF P r1_54) :: (amD P r1_55) :: (amI r1_55) :: (amF P r1_55) :: (amD P r1_56) :: (amI r1_56) :: (amF P r1_56) :: (amD P r1_57) :: (amI r1_57) :: (amF P r1_57) :: (amD P r1_58) :: (amI r1_58) :: (amF P r1_58) :: (amD P r1_59) :: (amI r1_59) :: (amF P r1_59) :: (amD P r1_60) :: (amI r1_60) :: (amF P r1_60) :: (amD P r1_61) :: (amI r1_61) :: (amF P r1_61) :: (amD P r1_62) :: (amI r1_62) :: (amF P r1_62) :: (amD P r1_63) :: (amI r1_63) :: (amF P r1_63) :: (amD P r1_64) :: (amI r1_64) :: (amF P r1_64) :: (amD P r1_65) :: (amI r1_65) :: (amF P r1_65) :: (amD P r1_66) :: (amI r1_66) :: (amF P r1_66) :: (amD P r1_67) :: (amI r1_67) :: (amF P r1_67) :: (amD P r1_68) :: (amI r1_68) :: (amF P r1_68) :: (amD P r1_69) :: (amI r1_69) :: (amF P r1_69) :: (amD P r1_70) :: (amI r1_70) :: (amF P r1_70) :: (o556 P) :: (amD P r2_0) :: (amI r2_0) :: (amF P r2_0) :: (amD P r2_1) :: (amI r2_1) :: (amF P r2_1) :: (amD P r2_2) :: (amI r2_2) :: (amF P r2_2) :: (amD P r2_3) :: (amI r2_3) :: (amF P r2_3) :: (amD P r2_4) :: (amI r2_4) :: (amF P r2_4) :: (amD P r2_5) :: (amI r2_5) :: (amF P r2_5) :: (amD P r2_6) :: (amI r2_6) :: (amF P r2_6) :: (amD P r2_7) :: (amI r2_7) :: (amF P r2_7) :: (amD P r2_8) :: (amI r2_8) :: (amF P r2_8) :: (amD P r2_9) :: (amI r2_9) :: (amF P r2_9) :: (amD P r2_10) :: (amI r2_10) :: (amF P r2_10) :: (amD P r2_11) :: (amI r2_11) :: (amF P r2_11) :: (amD P r2_12) :: (amI r2_12) :: (amF P r2_12) :: (amD P r2_13) :: (amI r2_13) :: (amF P r2_13) :: (amD P r2_14) :: (amI r2_14) :: (amF P r2_14) :: (amD P r2_15) :: (amI r2_15) :: (amF P r2_15) :: (amD P r2_16) :: (amI r2_16) :: (amF P r2_16) :: (amD P r2_17) :: (amI r2_17) :: (amF P r2_17) :: (amD P r2_18) :: (amI r2_18) :: (amF P r2_18) :: (amD P r2_19) :: (amI r2_19) :: (amF P r2_19) :: (amD P r2_20) :: (amI r2_20) :: (amF P r2_20) :: (amD P r2_21) :: (amI r2_21) :: (amF P r2_21) :: (amD P r2_22) :: (amI r2_22) :: (amF P r2_22) :: (amD P r2_23) :: (amI r2_23) :: (amF P r2_23) :: (amD P r2_24) :: (amI r2_24) :: (amF P r2_24) :: (amD P r2_25) :: (amI r2_25) :: (amF P r2_25) :: (amD P r2_26) :: (amI r2_26) :: (amF P r2_26) :: (amD P r2_27) :: (amI r2_27) :: (amF P r2_27) :: (amD P r2_28) :: (amI r2_28) :: (amF P r2_28) :: (amD P r2_29) :: (amI r2_29) :: (amF P r2_29) :: (amD P r2_30) :: (amI r2_30) :: (amF P r2_30) :: (amD P r2_31) :: (amI r2_31) :: (amF P r2_31) :: (amD P r2_32) :: (amI r2_32) :: (amF P r2_32) :: (amD P r2_33) :: (amI r2_33) :: (amF P r2_33) :: (amD P r2_34) :: (amI r2_34) :: (amF P r2_34) :: (amD P r2_35) :: (amI r2_35) :: (amF P r2_35) :: (amD P r2_36) :: (amI r2_36) :: (amF P r2_36) :: (amD P r2_37) :: (amI r2_37) :: (amF P r2_37) :: (amD P r2_38) :: (amI r2_38) :: (amF P r2_38) :: (amD P r2_39) :: (amI r2_39) :: (amF P r2_39) :: (o677 P) :: (amD P r3_0) :: (amI r3_0) :: (amF P r3_0) :: (amD P r3_1) :: (amI r3_1) :: (amF P r3_1) :: (amD P r3_2) :: (amI r3_2) :: (amF P r3_2) :: (amD P r3_3) :: (amI r3_3) :: (amF P r3_3) :: (amD P r3_4) :: (amI r3_4) :: (amF P r3_4) :: (amD P r3_5) :: (amI r3_5) :: (amF P r3_5) :: (amD P r3_6) :: (amI r3_6) :: (amF P r3_6) :: (amD P r3_7) :: (amI r3_7) :: (amF P r3_7) :: (amD P r3_8) :: (amI r3_8) :: (amF P r3_8) :: (amD P r3_9) :: (amI r3_9) :: (amF P r3_9) :: (amD P r3_10) :: (amI r3_10) :: (amF P r3_10) :: (amD P r3_11) :: (amI r3_11) :: (amF P r3_11) :: (amD P r3_12) :: (amI r3_12) :: (amF P r3_12) :: (amD P r3_13) :: (amI r3_13) :: (amF P r3_13) :: (amD P r3_14) :: (amI r3_14) :: (amF P r3_14) :: (amD P r3_15) :: (amI r3_15) :: (amF P r3_15) :: (amD P r3_16) :: (amI r3_16) :: (amF P r3_16) :: (amD P r3_17) :: (amI r3_17) :: (amF P r3_17) :: (amD P r3_18) :: (amI r3_18) :: (amF P r3_18) :: (amD P r3_19) :: (amI r3_19) :: (amF P r3_19) :: (amD P r3_20) :: (amI r3_20) :: (amF P r3_20) :: (amD P r3_21) :: (amI r3_21) :: (amF P r3_21) :: (amD P r3_22) :: (amI r3_22) :: (amF P r3_22) :: (amD P r3_23) :: (amI r3_23) :: (amF P r3_23) :: (amD P r3_24) :: (amI r3_24) :: (amF P r3_24) :: (amD P r3_25) :: (amI r3_25) :: (amF P r3_25) :: (amD P r3_26) :: (amI r3_26) :: (amF P r3_26) :: (amD P r3_27) :: (amI r3_27) :: (amF P r3_27) :: (amD P r3_28) :: (amI r3_28) :: (amF P r3_28) :: (amD P r3_29) :: (amI r3_29) :: (amF P r3_29) :: (amD P r3_30) :: (amI r3_30) :: (amF P r3_30) :: (amD P r3_31) :: (amI r3_31) :: (amF P r3_31) :: (amD P r3_32) :: (amI r3_32) :: (amF P r3_32) :: (amD P r3_33) :: (amI r3_33) :: (amF P r3_33) :: (amD P r3_34) :: (amI r3_34) :: (amF P r3_34) :: (amD P r3_35) :: (amI r3_35) :: (amF P r3_35) :: (amD P r3_36) :: (amI r3_36) :: (amF P r3_36) :: (amD P r3_37) :: (amI r3_37) :: (amF P r3_37) :: (amD P r3_38) :: (amI r3_38) :: (amF P r3_38) :: (amD P r3_39) :: (amI r3_39) :: (amF P r3_39) :: (amD P r3_40) :: (amI r3_40) :: (amF P r3_40) :: (amD P r3_41) :: (amI r3_41) :: (amF P r3_41) :: (amD P r3_42) :: (amI r3_42) :: (amF P r3_42) :: (amD P r3_43) :: (amI r3_43) :: (amF P r3_43) :: (amD P r3_44) :: (amI r3_44) :: (amF P r3_44) :: (amD P r3_45) :: (amI r3_45) :: (amF P r3_45) :: (amD P r3_46) :: (amI r3_46) :: (amF P r3_46) :: (amD P r3_47) :: (amI r3_47) :: (amF P r3_47) :: (amD P r3_48) :: (amI r3_48) :: (amF P r3_48) :: (amD P r3_49) :: (amI r3_49) :: (amF P r3_49) :: (amD P r3_50) :: (amI r3_50) :: (amF P r3_50) :: (amD P r3_51) :: (amI r3_51) :: (amF P r3_51) :: (amD P r3_52) :: (amI r3_52) :: (amF P r3_52) :: (amD P r3_53) :: (amI r3_53) :: (amF P r3_53) :: (amD P r3_54) :: (amI r3_54) :: (amF P r3_54) :: (amD P r3_55) :: (amI r3_55) :: (amF P r3_55) :: (amD P r3_56) :: (amI r3_56) :: (amF P r3_56) :: (o849 P) :: (o850 P) :: (o851 P) :: (o852 P) :: (o853 P) :: (o854 P) :: (o855 P) :: (o856 P) :: (o857 P) :: (o858 P) :: (o859 P) :: (o860 P) :: (o861 P) :: (o862 P) :: (o863 P) :: (o864 P) :: (o865 P) :: (o866 P) :: (o867 P) :: (o868 P) :: (o869 P) :: (o870 P) :: (o871 P) :: (o872 P) :: (o873 P) :: (o874 P) :: (o875 P) :: (o876 P) :: (o877 P) :: (o878 P) :: (o879 P) :: (o880 P) :: (o881 P) :: (o882 P) :: (o883 P) :: (o884 P) :: (o885 P) :: (o886 P) :: (o887 P) :: (o888 P) :: (o889 P) :: (o890 P) :: (o891 P) :: (o892 P) :: (o893 P) :: (o894 P) :: (o895 P) :: (o896 P) :: (o897 P) :: (o898 P) :: []).toArray, {}⟩
end Mine
end
section
open PySem PySem.W PyProof.Rows PySem.Calls
set_option maxRecDepth 100000
set_option maxHeartbeats 0
set_option linter.unusedVariables false
namespace Mine
noncomputable abbrev pw : Program := PySem.Challenge.pw_ak0021_01
noncomputable def env0 : Env := { scope := PySem.Challenge.pw_ak0021_01.main.scope, locals := mainNs, globals := mainNs, cells := [], code := .ref 13, frame := some 14 }
noncomputable def body0 : List Stmt := behindTheImports PySem.Challenge.pw_ak0021_01
noncomputable def cE : Code := .body (behindTheImports PySem.Challenge.pw_ak0021_01) env0
noncomputable def ann0 : Option Value := some (.ref 6)
noncomputable def q0 : Pos := ⟨0, 0, 0, 0⟩
noncomputable def topB : List Frame := [topFrame q0]
noncomputable def st (i : Nat) : Stmt := (txt[i]?).getD (.Pass default)
noncomputable def sts (i n : Nat) : List Stmt := (txt.drop i).take n
noncomputable def clsPos : Pos := ⟨155, 0, 244, 1423⟩
noncomputable def scOf : Stmt → Scope
  | .ClassDef _ _ _ _ _ _ sc _ _ _ _ => sc
  | _ => default
noncomputable def bodyB : List Stmt := clsBody (some (st 6))
noncomputable def envB : Env := { scope := scOf (st 6), locals := 225, globals := mainNs, cells := [], qual := Str.ofString "ArmenianStemmer.", code := .ref 228, frame := some 229 }
noncomputable def cB : Code := .body bodyB envB
noncomputable def frB (k : Result → Sem Fin) : Frame := .ret k none false [.ref 197, .ref 223, .ref 223, .ref 225, .ref 229] cE clsPos []
noncomputable def BB (k : Result → Sem Fin) : List Frame := [frB k, topFrame q0]
noncomputable def kOf : Option (SharedT × Thread) → Result → Sem Fin
  | some (_, ⟨_, _, _, .ret k _ _ _ _ _ _ :: _⟩) => k
  | _ => fun _ => .unsupported "no frame"
noncomputable def thRest (i : Nat) (p : Pos) : Thread := restOf (txt.drop i) env0 cE p topB
noncomputable def thSts (i n : Nat) (p : Pos) : Thread := piecesOf (sts i n) env0 cE p topB
noncomputable def k1 (w : World) (os : OsState) : Result → Sem Fin := kOf (segGoT treeTable PySem.Challenge.pw_ak0021_01 w 11 ann0 1 64 (SC5 w os) (thRest 6 ⟨154, 0, 154, 8⟩))
noncomputable def thBody (k : Result → Sem Fin) : Thread := ⟨denote treeTable cB, cB, clsPos, BB k⟩
noncomputable def thStart (k : Result → Sem Fin) : Thread := ⟨(blockStart bodyB envB).wrap (fun _ => doneF .next) deadEnd id id, cB, clsPos, BB k⟩
noncomputable def thB (i n : Nat) (p : Pos) (k : Result → Sem Fin) : Thread := ⟨(execs ((bodyB.drop i).take n) envB).wrap doneF deadEnd id id, cB, p, BB k⟩
noncomputable def thEnd (p : Pos) (k : Result → Sem Fin) : Thread := ⟨doneF .next, cB, p, BB k⟩
end Mine
end
section
open PySem PySem.W PyProof.Rows PySem.Calls
set_option maxRecDepth 100000
set_option maxHeartbeats 4000000
set_option linter.unusedVariables false
namespace Mine
noncomputable def thHash (s : Str) (t : Tok) (q : Pos) (k : Result → Sem Fin) (gd : Bool → Bool) (lv : List Value → List Value) : Thread := ⟨(pyHash (.str s t)).wrap (fun h => .pure (.done (.ret (.int h 0)))) deadEnd gd lv, cB, q, BB k⟩
theorem TX_set (P : Params) (o : Obj) (f : Obj → Obj) : (TX P o).set 230 f = TX P (f o) := by kernel_rfl
theorem TX_get (P : Params) (o : Obj) : (TX P o).get 230 = some o := by kernel_rfl
theorem run_hash : ∀ w : World, (fun (T : BT) (m : Nat) (life : Life) (gens : Array GenState) (dr : Drawn) (k : Nat) (os : OsState) (s : Str) (t : Tok) (q : Pos) (kk : Result → Sem Fin) (gd : Bool → Bool) (lv : List Value → List Value) => segRunT treeTable PySem.Challenge.pw_ak0021_01 w 11 ann0 2 30 ⟨T, m, life, gens, dr, k, os⟩ (thHash s t q kk gd lv)) = fun T m life gens dr k os s t q kk gd lv => some (.ret (.int (sHash w.params s) 0), ⟨T, m, life, gens, dr, k + 1, os⟩, cB, q) := by
  rw [PySem.W.Fast.te10110043849684766642, PySem.W.Fast.te14364793385576792824]
  refine byRow2 "special-get-raises" (fun w => ?_) (fun w => ?_)
  · kernel_rfl
  · kernel_rfl

noncomputable abbrev D' (w : World) (k : Result → Sem Fin) {α : Type} (n : Nat) (x : Sem α) (s : Shared) (q : Pos) (a : α) (s' : Shared) (q' : Pos) : Prop :=
  Does treeTable PySem.Challenge.pw_ak0021_01 w 11 ann0 (BB k) cB n x s q a s' q'
theorem does_hash {w : World} {k : Result → Sem Fin} {S : SharedT} {q : Pos} {s : Str} {t : Tok} :
    D' w k 30 (pyHash (.str s t)) S.abs q (sHash w.params s) ({ S with toks := S.toks + 1 } : SharedT).abs q := by
  obtain ⟨T, m, life, gens, dr, kk, os⟩ := S
  refine Does.of_seg (b := 2) (res := fun h => .ret (.int h 0)) rfl rfl (fun a b h => by cases h; rfl) fun gd lv => ?_
  have := congrFun (congrFun (congrFun (congrFun (congrFun (congrFun (congrFun (congrFun (congrFun (congrFun (congrFun (congrFun (congrFun (run_hash w) T) m) life) gens) dr) kk) os) s) t) q) k) gd) lv
  exact segRun_of this

/-- what is known of the set in the making -/
noncomputable def SInv (P : Params) (x : SetSt) (l : List (Str × Tok)) : Prop :=
  List.Perm x.es.toList (l.map fun p => (sHash P p.1, Value.str p.1 p.2)) ∧ x.t.fits x.es.size = true

variable {P : Params} {x : SetSt} {l : List (Str × Tok)} {s : Str} {t : Tok}
theorem SInv.size (h : SInv P x l) : x.es.size = l.length := by
  rw [← Array.length_toList, h.1.length_eq, List.length_map]
theorem SInv.mem (h : SInv P x l) {e : Int × Value} : e ∈ x.es.toList ↔ ∃ p ∈ l, (sHash P p.1, Value.str p.1 p.2) = e := by
  rw [h.1.mem_iff, List.mem_map]
theorem SInv.scan (h : SInv P x l) : x.es.all (fun e => e.2.scannable) = true := by
  rw [← Array.all_toList, List.all_eq_true]
  intro e he
  obtain ⟨p, _, rfl⟩ := h.mem.mp he
  rfl
theorem SInv.keys (h : SInv P x l) : x.es.all (fun e => isExactStrKey e.2) = true := by
  rw [← Array.all_toList, List.all_eq_true]
  intro e he
  obtain ⟨p, _, rfl⟩ := h.mem.mp he
  rfl
theorem SInv.none (h : SInv P x l) (hs : ∀ p ∈ l, p.1 ≠ s) : x.es.findIdx? (fun e => e.2.isStr s) = Option.none := by
  rw [Array.findIdx?_eq_none_iff]
  intro e he
  obtain ⟨p, hp, rfl⟩ := h.mem.mp (Array.mem_toList_iff.mpr he)
  show (p.1 == s) = false
  exact beq_eq_false_iff_ne.mpr (hs p hp)
theorem lie_perm (h : Int) (v : Value) : List.Perm (lieSt h x v).1.es.toList (x.es.push (h, v)).toList := layNew_perm _ _ _ _
theorem lie_fits (h : Int) (v : Value) : (lieSt h x v).1.t.fits (lieSt h x v).1.es.size = true := by
  have := layNew_fits x.t x.es h v
  unfold lieSt
  dsimp only
  split
  · exact SetTable.fits_plain_off this
  · exact this
theorem SInv.lie (h : SInv P x l) : SInv P (lieSt (sHash P s) x (.str s t)).1 (l ++ [(s, t)]) := by
  refine ⟨(lie_perm _ _).trans ?_, lie_fits _ _⟩
  rw [Array.toList_push, List.map_append]
  exact h.1.append_right _
theorem SInv.add (h : SInv P x l) : SInv P (addSt (sHash P s) x (.str s t)) (l ++ [(s, t)]) := by
  have h1 := h.lie (s := s) (t := t)
  unfold addSt
  dsimp only
  split
  · refine ⟨?_, ?_⟩
    · exact (relayAll_perm _ _ _).trans h1.1
    · exact relayAll_fits _ _ _
  · exact h1
theorem inv_after (P : Params) : ∀ (r l : List (Str × Tok)) (x : SetSt), SInv P x l → SInv P (stAfter P r x) (l ++ r)
  | [], l, x, h => by rw [List.append_nil]; exact h
  | (s, t) :: r, l, x, h => by
    have := inv_after P r _ _ (h.add (s := s) (t := t))
    rwa [List.append_assoc] at this
theorem inv_fresh (P : Params) : SInv P (freshSt P) [] := ⟨List.Perm.refl _, rfl⟩

theorem SX_get {w : World} {os : OsState} {k : Nat} (x : SetSt) : (SX w os (setObj x) k).abs.heap.get? 230 = some (setObj x) :=
  abs_get (t := TX w.params (setObj x)) (n := 231) (by decide) (TX_get _ _)
theorem SX_upd {w : World} {os : OsState} {k : Nat} (x : SetSt) (es : Array (Int × Value)) (t : SetTable) :
    ({ (SX w os (setObj x) k).abs with heap := (SX w os (setObj x) k).abs.heap.update 230 (Obj.putSet es t) } : Shared) = (SX w os (setObj ⟨es, x.ep + 1, t⟩) k).abs := by
  have := absHeap_set (t := TX w.params (setObj x)) (n := 231) (life := {}) (f := Obj.putSet es t) (TX_get _ _)
  rw [TX_set] at this
  show Shared.mk ((absHeap (TX w.params (setObj x)) 231 {}).update 230 (Obj.putSet es t)) _ _ _ _ = _
  rw [← this]
  rfl

section
variable {w : World} {k : Result → Sem Fin} {os : OsState} {q : Pos} {m : Nat}
theorem does_state (hf : x.t.fits x.es.size = true) : D' w k 1 (setState 230) (SX w os (setObj x) m).abs q (x.es, x.ep, x.t) (SX w os (setObj x) m).abs q := by
  unfold setState
  refine Does.bind (n := 1) (m := 0) (Does.load0 (SX_get x)) ?_
  have hc : (x.t.place.size != x.es.size || decide (x.t.fill > x.t.mask)) = false := by
    simp only [SetTable.fits, Bool.and_eq_true, beq_iff_eq, decide_eq_true_eq] at hf
    simp [hf.1, Nat.not_lt.mpr hf.2]
  show D' w k 0 (if (x.t.place.size != x.es.size || decide (x.t.fill > x.t.mask)) = true then _ else _) _ _ _ _ _
  rw [hc]
  exact Does.ret
theorem does_store {es : Array (Int × Value)} {t : SetTable} (hz : es.size ≤ sizeLine) : D' w k 2 (storeSet 230 es t) (SX w os (setObj x) m).abs q () (SX w os (setObj ⟨es, x.ep + 1, t⟩) m).abs q := by
  unfold storeSet
  refine Does.bind (n := 1) (m := 1) (Does.load0 (SX_get x)) ?_
  show D' w k 1 (if es.size > sizeLine then _ else _) _ _ _ _ _
  rw [if_neg (Nat.not_lt.mpr hz)]
  have := Does.update0 (tb := treeTable) (p := PySem.Challenge.pw_ak0021_01) (w := w) (n₀ := 11) (ann := ann0) (B := BB k) (c := cB) (q := q) (f := Obj.putSet es t) (a := 230) rfl (SX_get (w := w) (os := os) (k := m) x)
  rw [SX_upd] at this
  exact this
theorem small_fits {n : Nat} (h : n < 100) : n ≤ sizeLine := by rw [sizeLine_eq]; omega

theorem does_tail {g : Bool → Sem Unit} (hg : ∀ b S, D' w k 1 (g b) S q () S q) {es1 : Array (Int × Value)} {t2 : SetTable} {wd : Bool} (h1 : es1.size < 100) :
    D' w k 6 (do
        storeSet 230 es1 t2
        if (!wd && t2.tooFull) = true then do
            g (relayAll t2 es1 (SetTable.grown es1.size)).2.2
            storeSet 230 (relayAll t2 es1 (SetTable.grown es1.size)).1 (relayAll t2 es1 (SetTable.grown es1.size)).2.1
            pure (some true)
          else pure (some true)) (SX w os (setObj x) m).abs q (some true)
      (SX w os (setObj (if (!wd && t2.tooFull) = true then ⟨(relayAll t2 es1 (SetTable.grown es1.size)).1, x.ep + 1 + 1, (relayAll t2 es1 (SetTable.grown es1.size)).2.1⟩ else ⟨es1, x.ep + 1, t2⟩)) m).abs q := by
  refine Does.bind (n := 2) (m := 4) (does_store (small_fits h1)) ?_
  have hp := (relayAll_perm t2 es1 (SetTable.grown es1.size)).length_eq
  rw [Array.length_toList, Array.length_toList] at hp
  by_cases hc : (!wd && t2.tooFull) = true
  · rw [if_pos hc, if_pos hc]
    refine Does.mono (Does.bind (n := 1) (m := 2) (hg _ _) (Does.bind (n := 2) (m := 0) (does_store (x := ⟨es1, x.ep + 1, t2⟩) (small_fits (by omega))) Does.ret)) (by decide)
  · rw [if_neg hc, if_neg hc]
    exact Does.mono Does.ret (by decide)
theorem does_add (hI : SInv w.params x l) (hs : ∀ p ∈ l, p.1 ≠ s) (hl : l.length < 90) :
    D' w k 60 (setAdd 230 (.str s t)) (SX w os (setObj x) m).abs q true (SX w os (setObj (addSt (sHash w.params s) x (.str s t))) (m + 1)).abs q := by
  unfold setAdd
  refine Does.holding (Does.mono (Does.bind (does_hash (S := SX w os (setObj x) m)) (m := 20) ?_) (by decide))
  show D' w k 20 _ (SX w os (setObj x) (m + 1)).abs _ _ _ _
  unfold setAddHashed setAddHashedIn
  refine Does.holding (Does.mono (Does.bind (does_state hI.2) (m := 15) ?_) (by decide))
  dsimp only
  have hb : byScan (.str s t) x.es = true := by
    simp only [byScan, Bool.and_eq_true, decide_eq_true_eq]
    exact ⟨⟨rfl, by rw [hI.size]; have : scanBound = 4096 := rfl; omega⟩, hI.scan⟩
  rw [hb]
  simp only [↓reduceIte]
  unfold setAddByScan
  refine Does.mono (Does.bind (n := 13) (m := 0) (a := some true) ?_ Does.ret) (by decide)
  refine Does.bind (n := 1) (m := 12) Does.rule ?_
  refine Does.bind (n := 0) (m := 12) (a := ScanMet.absent) (s₁ := (SX w os (setObj x) (m + 1)).abs) (q₁ := q) ?_ ?_
  · unfold setScan
    dsimp only
    rw [hI.keys]
    simp only [↓reduceIte]
    unfold setScanStrs
    try dsimp only
    rw [hI.none hs]
    exact Does.ret
  dsimp only
  have h1 := hI.lie (s := s) (t := t)
  have hsz := h1.size
  have hgw : ∀ b S, D' w k 1 (match b with | true => rule "set.scan.the-table-gave-way" | false => Pure.pure ()) S q () S q := fun b S => by
    cases b
    · exact Does.mono Does.ret (by decide)
    · exact Does.rule
  have hlie : ∀ z, lieSt (sHash w.params s) x (.str s t) = z → z.1.es.size < 100 := fun z e => by rw [← e, hsz, List.length_append]; simp; omega
  have hadd : addSt (sHash w.params s) x (.str s t) = (let y := lieSt (sHash w.params s) x (.str s t); if (!y.2 && y.1.t.tooFull) = true then ⟨(relayAll y.1.t y.1.es (SetTable.grown y.1.es.size)).1, y.1.ep + 1, (relayAll y.1.t y.1.es (SetTable.grown y.1.es.size)).2.1⟩ else y.1) := rfl
  rw [hadd]
  clear hadd h1 hsz
  unfold lieSt at hlie ⊢
  generalize layNew x.t x.es (sHash w.params s) (.str s t) = L at hlie ⊢
  obtain ⟨es1, t1, wd, gave⟩ := L
  dsimp only at hlie ⊢
  have hsz := hlie _ rfl
  dsimp only at hsz
  refine Does.bind (n := 1) (m := 11) (hgw _ _) ?_
  by_cases hp : t1.plain = true
  · rw [if_pos hp, if_pos hp]
    refine Does.bind (n := 0) (m := 11) (a := false) (s₁ := (SX w os (setObj x) (m + 1)).abs) (q₁ := q) (by rw [hashByValue_scannable 8 rfl]; exact Does.ret) ?_
    exact Does.mono (does_tail (wd := wd) (t2 := { t1 with plain := false }) hgw hsz) (by decide)
  · rw [if_neg hp, if_neg hp]
    refine Does.bind (n := 0) (m := 11) (a := true) (s₁ := (SX w os (setObj x) (m + 1)).abs) (q₁ := q) Does.ret ?_
    exact Does.mono (does_tail (wd := wd) (t2 := t1) hgw hsz) (by decide)
end
end Mine
end
section
open PySem PySem.W PyProof.Rows PySem.Calls
set_option maxRecDepth 100000
set_option maxHeartbeats 400000
set_option linter.unusedVariables false
namespace Mine
noncomputable def tgtOf : Option Stmt → Expr
  | some (.Assign (t :: _) _ _) => t
  | _ => .Constant .none 0 default
noncomputable def tgG : Expr := tgtOf bodyB[0]?
noncomputable def psG : Pos := ⟨156, 10, 156, 58⟩
noncomputable def paG : Pos := ⟨156, 4, 156, 58⟩
noncomputable def vowEs : List (Str × Tok) → Nat → List Expr
  | [], _ => []
  | (s, _) :: r, i => .Constant (.str s) 0 ⟨156, i, 156, i + 4⟩ :: vowEs r (i + 6)
noncomputable def stG : Stmt := .Assign [tgG] (.Set (vowEs vowels 11) 0 psG) paG
theorem bodyB_eq : bodyB = stG :: bodyB.drop 1 := by kernel_rfl
noncomputable def thMain (k : Result → Sem Fin) (gd : Bool → Bool) (lv : List Value → List Value) : Thread := ⟨(inMainModule envB).wrap (fun b => .pure (.done (.ret (.bool b)))) deadEnd gd lv, cB, psG, BB k⟩
noncomputable def thNew (k : Result → Sem Fin) (gd : Bool → Bool) (lv : List Value → List Value) : Thread := ⟨(newSet (.type "set")).wrap (fun b => .pure (.done (.ret b))) deadEnd gd lv, cB, psG, BB k⟩
noncomputable def thStore (k : Result → Sem Fin) (gd : Bool → Bool) (lv : List Value → List Value) : Thread := ⟨(assignStores envB (.ref 230) none ((assignEach [tgG] envB).map (·.2))).wrap (fun f => .pure (.done f)) deadEnd gd lv, cB, psG, BB k⟩

theorem run_main : ∀ w : World, (fun (os : OsState) (k : Result → Sem Fin) (gd : Bool → Bool) (lv : List Value → List Value) => segRunT treeTable PySem.Challenge.pw_ak0021_01 w 11 ann0 2 30 (SD w os) (thMain k gd lv)) = fun os k gd lv => some (.ret (.bool true), SD w os, cB, psG) := by
  rw [PySem.W.Fast.te10110043849684766642, PySem.W.Fast.te14364793385576792824]
  intro w
  kernel_rfl
theorem run_new : ∀ w : World, (fun (os : OsState) (k : Result → Sem Fin) (gd : Bool → Bool) (lv : List Value → List Value) => segRunT treeTable PySem.Challenge.pw_ak0021_01 w 11 ann0 2 30 (SD w os) (thNew k gd lv)) = fun os k gd lv => some (.ret (.ref 230), SX w os (setObj (freshSt w.params)) 473, cB, psG) := by
  rw [PySem.W.Fast.te10110043849684766642, PySem.W.Fast.te14364793385576792824]
  intro w
  kernel_rfl
theorem run_store : ∀ w : World, (fun (os : OsState) (k : Result → Sem Fin) (gd : Bool → Bool) (lv : List Value → List Value) => segRunT treeTable PySem.Challenge.pw_ak0021_01 w 11 ann0 2 60 (SX w os (oSet w.params) 489) (thStore k gd lv)) = fun os k gd lv => some (.next, SE0 w os, cB, ⟨156, 4, 156, 7⟩) := by
  rw [PySem.W.Fast.te10110043849684766642, PySem.W.Fast.te14364793385576792824]
  intro w
  kernel_rfl

section
variable {w : World} {k : Result → Sem Fin} {os : OsState}
theorem does_main : D' w k 30 (inMainModule envB) (SD w os).abs psG true (SD w os).abs psG :=
  Does.of_seg (b := 2) (res := fun b => .ret (.bool b)) rfl rfl (fun a b h => by cases h; rfl) fun gd lv => segRun_of (congrFun (congrFun (congrFun (congrFun (run_main w) os) k) gd) lv)
theorem does_new : D' w k 30 (newSet (.type "set")) (SD w os).abs psG (.ref 230) (SX w os (setObj (freshSt w.params)) 473).abs psG :=
  Does.of_seg (b := 2) (res := fun v => .ret v) rfl rfl (fun a b h => by cases h; rfl) fun gd lv => segRun_of (congrFun (congrFun (congrFun (congrFun (run_new w) os) k) gd) lv)
theorem does_gstore : D' w k 60 (assignStores envB (.ref 230) none ((assignEach [tgG] envB).map (·.2))) (SX w os (oSet w.params) 489).abs psG .next (SE0 w os).abs ⟨156, 4, 156, 7⟩ :=
  Does.of_seg (b := 2) (res := fun v => v) rfl rfl (fun a b h => h) fun gd lv => segRun_of (congrFun (congrFun (congrFun (congrFun (run_store w) os) k) gd) lv)

theorem does_const {o : Obj} {m : Nat} {s : Str} {p ps q : Pos} {c : Nat} :
    D' w k 2 (do let v ← eval (.Constant (.str s) c p) envB; standAt ps; Pure.pure v) (SX w os o m).abs q (.str s m) (SX w os o (m + 1)).abs ps := by
  show D' w k 2 (do let v ← mkText s; standAt ps; Pure.pure v) _ _ _ _ _
  unfold mkText
  refine Does.bind (n := 1) (m := 1) (Does.bind (n := 1) (m := 0) Does.fresh Does.ret) ?_
  exact Does.bind (n := 1) (m := 0) Does.standAt Does.ret
noncomputable def strsFrom : List (Str × Tok) → Nat → List Value
  | [], _ => []
  | (s, _) :: r, m => .str s m :: strsFrom r (m + 1)
theorem does_consts {o : Obj} {ps : Pos} : ∀ (l : List (Str × Tok)) (i m : Nat) (q : Pos), D' w k (2 * l.length) (evalAll ((vowEs l i).map fun e => do let v ← eval e envB; standAt ps; Pure.pure v)) (SX w os o m).abs q (strsFrom l m) (SX w os o (m + l.length)).abs (if l = [] then q else ps)
  | [], i, m, q => Does.ret
  | (s, t) :: r, i, m, q => by
    have ih := does_consts (o := o) (ps := ps) r (i + 6) (m + 1) ps
    rw [ite_self] at ih
    show D' w k _ (evalAll ((do let v ← eval (.Constant (.str s) 0 ⟨156, i, 156, i + 4⟩) envB; standAt ps; Pure.pure v) :: ((vowEs r (i + 6)).map fun e => do let v ← eval e envB; standAt ps; Pure.pure v))) _ _ _ _ _
    unfold evalAll
    rw [if_neg (by simp)]
    refine Does.mono (Does.bind does_const (Does.bind (Does.holding (q₁ := ps) (s₁ := (SX w os o (m + 1 + r.length)).abs) (a := strsFrom r (m + 1)) ih) (m := 0) ?_)) (by simp only [List.length_cons]; omega)
    rw [show m + ((s, t) :: r).length = m + 1 + r.length by simp only [List.length_cons]; omega]
    exact Does.ret
theorem does_adds {q : Pos} : ∀ (r l : List (Str × Tok)) (x : SetSt) (m : Nat), SInv w.params x l → (∀ p ∈ l, ∀ u ∈ r, p.1 ≠ u.1) → (r.map (·.1)).Nodup → l.length + r.length < 90 →
    D' w k (60 * r.length) (forIn (m := Sem) (r.map fun p => Value.str p.1 p.2) PUnit.unit fun x _ => do let _ ← setAdd 230 x; Pure.pure (ForInStep.yield PUnit.unit)) (SX w os (setObj x) m).abs q PUnit.unit (SX w os (setObj (stAfter w.params r x)) (m + r.length)).abs q
  | [], l, x, m, hI, _, _, _ => by
    rw [List.map_nil, List.forIn_nil]
    exact Does.ret
  | (s, t) :: r, l, x, m, hI, hn, hd, hl => by
    rw [List.map_cons, List.forIn_cons]
    have hd' := List.nodup_cons.mp hd
    have ih := does_adds (q := q) r (l ++ [(s, t)]) (addSt (sHash w.params s) x (.str s t)) (m + 1) (hI.add) (fun p hp u hu => by
      rcases List.mem_append.mp hp with hp | hp
      · exact hn p hp u (.tail _ hu)
      · rw [List.mem_singleton] at hp
        subst hp
        intro e
        exact hd'.1 (by dsimp only at e ⊢; rw [e]; exact List.mem_map_of_mem hu)) hd'.2 (by rw [List.length_append]; simp only [List.length_cons, List.length_nil] at hl ⊢; omega)
    have hadd := does_add (w := w) (k := k) (os := os) (q := q) (m := m) (s := s) (t := t) hI (fun p hp => hn p hp (s, t) (.head _)) (by simp only [List.length_cons] at hl; omega)
    rw [show m + ((s, t) :: r).length = m + 1 + r.length by simp only [List.length_cons]; omega]
    refine Does.mono (Does.bind (Does.bind hadd (m := 0) Does.ret) ih) (by simp only [List.length_cons]; omega)
theorem strs_vowels : strsFrom vowels 473 = vowels.map fun p => Value.str p.1 p.2 := rfl
theorem does_core {n1 n2 n3 n4 : Nat} {b : Bool} {elts : List (Bool × Sem Value)} {ts : List (Sem Value)} {vs : List Value} {d : Addr} {S S1 S2 S3 S4 : Shared} {q q1 q2 q3 q4 : Pos}
    (hs : elts.findIdx? (·.1) = none) (hlen : elts.length ≤ 30) (hm : elts.map (·.2) = ts) (hnew : D' w k n1 (newSet (.type "set")) S q (.ref d) S1 q1) (hall : D' w k n2 (evalAll ts) S1 q1 vs S2 q2)
    (hfor : D' w k n3 (forIn (m := Sem) vs PUnit.unit fun x _ => do let _ ← setAdd d x; Pure.pure (ForInStep.yield PUnit.unit)) S2 q2 PUnit.unit S3 q3) (hun : D' w k n4 (setUnled d) S3 q3 () S4 q4) :
    D' w k (n1 + (n2 + (n3 + (1 + n4)))) (setDisplay .unsure b elts) S q (.ref d) S4 q4 := by
  have hn : (if elts.length > 30 then 0 else (elts.findIdx? (·.1)).getD elts.length) = elts.length := by rw [if_neg (by omega), hs]; rfl
  unfold setDisplay
  rw [if_neg (by decide)]
  refine Does.bind hnew ?_
  dsimp only
  rw [hn, List.take_length, List.drop_length, hm]
  refine Does.mono (n := n2 + ((n3 + (1 + n4)) + 0) + 0) (Does.bind (a := ()) (s₁ := S4) (q₁ := q4) (Does.holding (Does.bind hall (Does.bind (a := ()) (s₁ := S4) (q₁ := q4) (Does.holding (Does.bind hfor ?_)) ?_))) Does.ret) (by omega)
  · rw [if_pos (by decide)]
    exact Does.bind Does.rule hun
  · rw [List.forIn_nil]
    exact Does.bind (n := 0) (m := 0) Does.ret Does.ret
theorem does_gv : D' w k 2000 (exec stG envB) (SD w os).abs clsPos .next (SE0 w os).abs ⟨156, 4, 156, 7⟩ := by
  unfold stG
  rw [arm_exec_Assign]
  refine Does.bind (n := 1) (m := 1999) Does.standAt ?_
  refine Does.bind (n := 0) (m := 1999) (a := false) (s₁ := (SD w os).abs) (q₁ := paG) Does.ret ?_
  rw [if_neg Bool.false_ne_true]
  refine Does.bind (n := 1900) (m := 99) (a := .ref 230) (s₁ := (SX w os (oSet w.params) 489).abs) (q₁ := psG) ?_ ?_
  · rw [arm_eval_Set]
    refine Does.bind (n := 1) (m := 1899) Does.standAt ?_
    refine Does.bind (n := 30) (m := 1869) (a := true) (s₁ := (SD w os).abs) (q₁ := psG) does_main ?_
    have hr : displayRoad 0 (vowEs vowels 11) = .unsure := by decide +kernel
    rw [hr, kds_star _ (by decide +kernel), List.map_map]
    have hI := inv_after w.params vowels [] _ (inv_fresh w.params)
    have hu : D' w k 3 (setUnled 230) (SX w os (setObj (stAfter w.params vowels (freshSt w.params))) 489).abs psG () (SX w os (oSet w.params) 489).abs psG := by
      unfold setUnled
      refine Does.bind (n := 1) (m := 2) (does_state hI.2) ?_
      exact does_store (small_fits (by rw [hI.size]; decide))
    have ha := does_adds (w := w) (k := k) (os := os) (q := psG) vowels [] _ 481 (inv_fresh _) (fun p hp => by cases hp) (by decide) (by decide)
    refine Does.mono (does_core (ts := (vowEs vowels 11).map fun e => do let v ← eval e envB; standAt psG; Pure.pure v) ?_ ?_ ?_ does_new (does_consts vowels 11 473 psG) ha hu) (by decide)
    · rfl
    · decide
    · rfl
  · refine Does.mono (Does.bind (n := 0) (m := 60) (a := none) (s₁ := (SX w os (oSet w.params) 489).abs) (q₁ := psG) Does.ret does_gstore) (by decide)
end

noncomputable def isV (s : Str) : Bool := vowels.any fun p => p.1 == s
theorem oSet_is (prog : Program) (w : World) : (oSet w.params).SetObjOf (strKind prog w) isV 8 := by
  have hI := inv_after w.params vowels [] _ (inv_fresh w.params)
  unfold oSet
  rw [List.nil_append] at hI
  generalize stAfter w.params vowels (freshSt w.params) = X at hI ⊢
  obtain ⟨es, ep, t⟩ := X
  have hf : t.fits es.size = true := hI.2
  refine ⟨⟨rfl, rfl, rfl⟩, es, ep + 1, { t with led := false }, rfl, ?_, ?_, ?_, ?_⟩
  · intro e he
    obtain ⟨p, _, rfl⟩ := hI.mem.mp he
    exact ⟨⟨p.1, strKind_is prog w p.1 p.2, rfl⟩, rfl⟩
  · intro s
    unfold isV
    rw [List.any_eq_true]
    constructor
    · rintro ⟨p, hp, e⟩
      refine ⟨_, hI.mem.mpr ⟨p, hp, rfl⟩, ?_⟩
      rw [← beq_iff_eq.mp e]
      exact strKind_is prog w p.1 p.2
    · rintro ⟨e, he, h⟩
      obtain ⟨p, hp, rfl⟩ := hI.mem.mp he
      refine ⟨p, hp, ?_⟩
      have h' : Value.isStrOf s (Value.str p.1 p.2) = true := h
      obtain ⟨u, hu⟩ := Value.isStrOf_shape h'
      injection hu with h1 h2
  · exact hI.size
  · cases t; exact hf
end Mine
end
section
open PySem PySem.W PyProof.Rows PySem.Calls
set_option maxRecDepth 100000
set_option maxHeartbeats 0
set_option linter.unusedVariables false
namespace Mine
theorem run_pre : ∀ w : World, (fun os => topGo treeTable PySem.Challenge.pw_ak0021_01 w 11 ann0 12 ⟨boot_heap w.params, Array.mk [], boot_drawn, boot_toks, os⟩ (topStub PySem.Challenge.pw_ak0021_01)) = fun os => some ((SB w os).abs, (⟨denote treeTable cE, cE, q0, topB⟩ : Thread)) := by
  rw [PySem.W.Fast.te15667345088766844465, PySem.W.Fast.te11892475500146522536, PySem.W.Fast.te14364793385576792824]
  intro w
  kernel_rfl
theorem run_block : ∀ w : World, (fun os => segRunT treeTable PySem.Challenge.pw_ak0021_01 w 11 ann0 1 1 (SB w os) (blockOf body0 env0 cE q0 topB)) = fun os => some (Flow.next, SB w os, cE, q0) := by
  rw [PySem.W.Fast.te10110043849684766642, PySem.W.Fast.te14364793385576792824]
  intro w
  kernel_rfl
theorem run_C2 : ∀ w : World, (fun os => segRunT treeTable PySem.Challenge.pw_ak0021_01 w 11 ann0 1 1010 (SB w os) (thSts 0 3 q0)) = fun os => some (Flow.next, SC2 w os, cE, ⟨5, 0, 146, 54⟩) := by
  rw [PySem.W.Fast.te10110043849684766642, PySem.W.Fast.te14364793385576792824]
  intro w
  kernel_rfl
theorem run_C5 : ∀ w : World, (fun os => segRunT treeTable PySem.Challenge.pw_ak0021_01 w 11 ann0 1 245 (SC2 w os) (thSts 3 3 ⟨5, 0, 146, 54⟩)) = fun os => some (Flow.next, SC5 w os, cE, ⟨154, 0, 154, 8⟩) := by
  rw [PySem.W.Fast.te10110043849684766642, PySem.W.Fast.te14364793385576792824]
  intro w
  kernel_rfl
theorem run_D : ∀ w : World, (fun os => segGoT treeTable PySem.Challenge.pw_ak0021_01 w 11 ann0 1 64 (SC5 w os) (thRest 6 ⟨154, 0, 154, 8⟩)) = fun os => some (SD w os, thBody (k1 w os)) := by
  unfold k1 thBody
  rw [PySem.W.Fast.te10295753902157049106, PySem.W.Fast.te14364793385576792824, PySem.W.Fast.te11892475500146522536]
  intro w
  kernel_rfl
theorem run_start : ∀ w : World, (fun os (k : Result → Sem Fin) => segRunT treeTable PySem.Challenge.pw_ak0021_01 w 11 ann0 2 1 (SD w os) (thStart k)) = fun os (k : Result → Sem Fin) => some (Flow.next, SD w os, cB, clsPos) := by
  rw [PySem.W.Fast.te10110043849684766642, PySem.W.Fast.te14364793385576792824]
  intro w
  kernel_rfl
theorem run_E8 : ∀ w : World, (fun os (k : Result → Sem Fin) => segRunT treeTable PySem.Challenge.pw_ak0021_01 w 11 ann0 2 207 (SE0 w os) (thB 1 8 ⟨156, 4, 156, 7⟩ k)) = fun os (k : Result → Sem Fin) => some (Flow.next, SE8 w os, cB, ⟨218, 4, 240, 19⟩) := by
  rw [PySem.W.Fast.te10110043849684766642, PySem.W.Fast.te14364793385576792824]
  intro w
  kernel_rfl
theorem run_F : ∀ w : World, (fun os => segGoT treeTable PySem.Challenge.pw_ak0021_01 w 11 ann0 1 165 (SE12 w os) (thEnd ⟨244, 4, 244, 7⟩ (k1 w os))) = fun os => some (SF w os, thRest 7 ⟨155, 0, 244, 1423⟩) := by
  rw [PySem.W.Fast.te10295753902157049106, PySem.W.Fast.te14364793385576792824]
  intro w
  kernel_rfl
theorem run_G12 : ∀ w : World, (fun os => segRunT treeTable PySem.Challenge.pw_ak0021_01 w 11 ann0 1 242 (SF w os) (thSts 7 6 ⟨155, 0, 244, 1423⟩)) = fun os => some (Flow.next, SG12 w os, cE, ⟨251, 0, 251, 9⟩) := by
  rw [PySem.W.Fast.te10110043849684766642, PySem.W.Fast.te14364793385576792824]
  intro w
  kernel_rfl
theorem run_G17 : ∀ w : World, (fun os => segRunT treeTable PySem.Challenge.pw_ak0021_01 w 11 ann0 1 246 (SG12 w os) (thSts 13 5 ⟨251, 0, 251, 9⟩)) = fun os => some (Flow.next, SG17 w os, cE, ⟨256, 0, 256, 10⟩) := by
  rw [PySem.W.Fast.te10110043849684766642, PySem.W.Fast.te14364793385576792824]
  intro w
  kernel_rfl
theorem run_H : ∀ w : World, (fun os => segRunT treeTable PySem.Challenge.pw_ak0021_01 w 11 ann0 1 117 (SG17 w os) (thSts 18 4 ⟨256, 0, 256, 10⟩)) = fun os => some (Flow.next, SH w os, cE, ⟨264, 0, 275, 93⟩) := by
  rw [PySem.W.Fast.te10110043849684766642, PySem.W.Fast.te14364793385576792824]
  intro w
  kernel_rfl
theorem run_fin : ∀ w : World, (fun os => topRun treeTable PySem.Challenge.pw_ak0021_01 w 11 ann0 2 (SH w os).abs (⟨doneF .next, cE, ⟨264, 0, 275, 93⟩, topB⟩ : Thread)) = fun os => some (⟨HH w.params, #[], boot_drawn, 3390, os⟩ : Shared) := by
  rw [PySem.W.Fast.te14082659384304107361, PySem.W.Fast.te14364793385576792824]
  intro w
  kernel_rfl
end Mine
end
section
open PySem PySem.W PyProof.Rows PySem.Calls
set_option maxRecDepth 100000
set_option maxHeartbeats 400000
set_option linter.unusedVariables false
namespace Mine
section
variable {tb : String → Option Builtin} {p : Program} {w : World} {n₀ : Nat} {ann : Option Value} {B : List Frame} {c : Code} {s s₁ : Shared} {q q₁ : Pos}
/-- as of_seg, for a list of values: the run tells whether it is the one expected -/
theorem Does.of_segL {n b : Nat} {x : Sem (List Value)} {a : List Value} (hB : splitAtGen B = none) (hb : B.length = b)
    (h : ∀ gd lv, segRun tb p w n₀ ann b n s ⟨x.wrap (fun v => .pure (.done (if v = a then .next else .brk))) deadEnd gd lv, c, q, B⟩ = some (.next, s₁, c, q₁)) : Does tb p w n₀ ann B c n x s q a s₁ q₁ := fun K H gd lv N r k => by
  subst hb
  obtain ⟨a', ha, hN⟩ := seg_top (res := fun v : List Value => if v = a then Flow.next else Flow.brk) (K' := K) (H' := H) (gd := gd) (lv := lv) (B := B) hB n s ⟨x.wrap (fun v => .pure (.done (if v = a then .next else .brk))) deadEnd gd lv, c, q, B⟩ ⟨x.wrap K H gd lv, c, q, B⟩ _ _ _ _ ⟨rfl, rfl, .inl ⟨rfl, rfl, x, rfl, rfl⟩⟩ (h gd lv)
  have e : a' = a := by
    have ha : (if a' = a then Flow.next else Flow.brk) = Flow.next := ha
    by_cases e : a' = a
    · exact e
    · rw [if_neg e] at ha; cases ha
  subst e
  exact hN N r k
theorem hold_app {α : Type} (xs ys : List Value) (m : Sem α) : holding xs (holding ys m) = holding (xs ++ ys) m := by
  simp only [holding_eq_keep, Sem.keep_keep, List.filter_append]
theorem hold_bind {α β : Type} (xs : List Value) (m : Sem α) (f : α → Sem β) : holding xs (m >>= f) = holding xs m >>= fun a => holding xs (f a) := by
  simp only [holding_eq_keep, Sem.bind_eq, Sem.keep_bind]
theorem hold_pure (xs : List Value) {α : Type} (a : α) : holding xs (Pure.pure a : Sem α) = Pure.pure a := by
  rw [holding_eq_keep]; rfl
theorem spliced_app : ∀ (xs ys : List (Bool × Sem Value)), spliced (xs ++ ys) = (spliced xs >>= fun vs => holding vs (spliced ys) >>= fun ws => Pure.pure (vs ++ ws))
  | [], ys => by
    rw [List.nil_append]
    unfold spliced
    rw [pure_bind, holding_eq_keep, List.filter_nil, Sem.keep_nil]
    simp only [List.nil_append, bind_pure]
  | (b, x) :: xs, ys => by
    rw [List.cons_append, spliced, spliced]
    rw [bind_assoc]
    refine congrArg (x >>= ·) (funext fun v => ?_)
    cases b
    · simp only [Bool.false_eq_true, if_false, spliced_app xs ys, bind_assoc, hold_bind, hold_app, hold_pure, pure_bind, List.append_assoc]
    · simp only [if_true, bind_assoc]
      refine congrArg (_ >>= ·) (funext fun d => ?_)
      cases d <;> simp only [Bool.false_eq_true, if_false, if_true, spliced_app xs ys, bind_assoc, hold_bind, hold_app, hold_pure, pure_bind, List.append_assoc]
theorem does_app {xs ys : List (Bool × Sem Value)} {vs ws : List Value} {n m : Nat} {s₂ : Shared} {q₂ : Pos} (h1 : Does tb p w n₀ ann B c n (spliced xs) s q vs s₁ q₁) (h2 : Does tb p w n₀ ann B c m (spliced ys) s₁ q₁ ws s₂ q₂) :
    Does tb p w n₀ ann B c (n + m) (spliced (xs ++ ys)) s q (vs ++ ws) s₂ q₂ := by
  rw [spliced_app]
  exact Does.bind h1 (Does.bind (m := 0) (Does.holding h2) Does.ret)
end
noncomputable def eltsOf : Option Stmt → List Expr
  | some (.Assign _ (.List es _) _) => es
  | _ => []
noncomputable def thL (x : List (Bool × Sem Value)) (vs : List Value) (q : Pos) (k : Result → Sem Fin) (gd : Bool → Bool) (lv : List Value → List Value) : Thread := ⟨(spliced x).wrap (fun v => .pure (.done (if v = vs then .next else .brk))) deadEnd gd lv, cB, q, BB k⟩
noncomputable def thN (vs : List Value) (q : Pos) (k : Result → Sem Fin) (gd : Bool → Bool) (lv : List Value → List Value) : Thread := ⟨(newList vs).wrap (fun v => .pure (.done (.ret v))) deadEnd gd lv, cB, q, BB k⟩
noncomputable def thA (t : Expr) (v : Value) (q : Pos) (k : Result → Sem Fin) (gd : Bool → Bool) (lv : List Value → List Value) : Thread := ⟨(assignStores envB v none ((assignEach [t] envB).map (·.2))).wrap (fun f => .pure (.done f)) deadEnd gd lv, cB, q, BB k⟩
section
variable {w : World} {k : Result → Sem Fin} {os : OsState}
theorem does_asg {t : Expr} {els : List Expr} {ps pa : Pos} {vs : List Value} {d : Addr} {S S1 S2 S3 : Shared} {q q1 q3 : Pos} {n1 n2 n3 : Nat} (hw : swapsWithSole [t] (.List els ps) pa.line envB = Pure.pure false) (hs : swappedStores [t] (.List els ps) envB = Pure.pure none)
    (h1 : D' w k n1 (spliced (backTo ps (starEach els envB))) S ps vs S1 q1) (h2 : D' w k n2 (newList vs) S1 q1 (.ref d) S2 q1) (h3 : D' w k n3 (assignStores envB (.ref d) none ((assignEach [t] envB).map (·.2))) S2 q1 .next S3 q3) :
    D' w k (1 + (0 + ((1 + (n1 + n2)) + (0 + n3)))) (exec (.Assign [t] (.List els ps) pa) envB) S q .next S3 q3 := by
  rw [arm_exec_Assign]
  refine Does.bind Does.standAt ?_
  rw [hw]
  refine Does.bind Does.ret ?_
  rw [if_neg Bool.false_ne_true]
  refine Does.bind (a := .ref d) (s₁ := S2) (q₁ := q1) ?_ ?_
  · rw [arm_eval_List]
    exact Does.bind Does.standAt (Does.bind h1 h2)
  · rw [hs]
    exact Does.bind Does.ret h3
end
noncomputable def els9 : List Expr := eltsOf bodyB[9]?
noncomputable def tg9 : Expr := tgtOf bodyB[9]?
noncomputable def pt9 (i n : Nat) : List (Bool × Sem Value) := ((backTo ⟨241, 10, 241, 575⟩ (starEach els9 envB)).drop i).take n
theorem body9 : bodyB.drop 9 = Stmt.Assign [tg9] (.List els9 ⟨241, 10, 241, 575⟩) ⟨241, 4, 241, 575⟩ :: bodyB.drop 10 := by kernel_rfl
noncomputable def U9_0 (P : Params) : BT := (((((((((((((((((((((((((((((((((((((TE8 P).ins 273 (amD P r0_0)).ins 274 (amI r0_0)).ins 275 (amF P r0_0)).ins 276 (amD P r0_1)).ins 277 (amI r0_1)).ins 278 (amF P r0_1)).ins 279 (amD P r0_2)).ins 280 (amI r0_2)).ins 281 (amF P r0_2)).ins 282 (amD P r0_3)).ins 283 (amI r0_3)).ins 284 (amF P r0_3)).ins 285 (amD P r0_4)).ins 286 (amI r0_4)).ins 287 (amF P r0_4)).ins 288 (amD P r0_5)).ins 289 (amI r0_5)).ins 290 (amF P r0_5)).ins 291 (amD P r0_6)).ins 292 (amI r0_6)).ins 293 (amF P r0_6)).ins 294 (amD P r0_7)).ins 295 (amI r0_7)).ins 296 (amF P r0_7)).ins 297 (amD P r0_8)).ins 298 (amI r0_8)).ins 299 (amF P r0_8)).ins 300 (amD P r0_9)).ins 301 (amI r0_9)).ins 302 (amF P r0_9)).ins 303 (amD P r0_10)).ins 304 (amI r0_10)).ins 305 (amF P r0_10)).ins 306 (amD P r0_11)).ins 307 (amI r0_11)).ins 308 (amF P r0_11))
noncomputable def V9_0 (w : World) (os : OsState) : SharedT := ⟨U9_0 w.params, 309, {}, #[], boot_drawn, 707, os⟩
theorem c9_0 : ∀ w : World, (fun (os : OsState) (k : Result → Sem Fin) (gd : Bool → Bool) (lv : List Value → List Value) => segRunT treeTable PySem.Challenge.pw_ak0021_01 w 11 ann0 2 2033 (SE8 w os) (thL (pt9 0 12) [.ref 274, .ref 277, .ref 280, .ref 283, .ref 286, .ref 289, .ref 292, .ref 295, .ref 298, .ref 301, .ref 304, .ref 307] ⟨241, 10, 241, 575⟩ k gd lv)) = fun os k gd lv => some (.next, V9_0 w os, cB, ⟨241, 284, 241, 308⟩) := by
  rw [PySem.W.Fast.te10110043849684766642, PySem.W.Fast.te14364793385576792824]
  intro w
  kernel_rfl
noncomputable def U9_1 (P : Params) : BT := ((((((((((((((((((((((((((((((((((U9_0 P).ins 309 (amD P r0_12)).ins 310 (amI r0_12)).ins 311 (amF P r0_12)).ins 312 (amD P r0_13)).ins 313 (amI r0_13)).ins 314 (amF P r0_13)).ins 315 (amD P r0_14)).ins 316 (amI r0_14)).ins 317 (amF P r0_14)).ins 318 (amD P r0_15)).ins 319 (amI r0_15)).ins 320 (amF P r0_15)).ins 321 (amD P r0_16)).ins 322 (amI r0_16)).ins 323 (amF P r0_16)).ins 324 (amD P r0_17)).ins 325 (amI r0_17)).ins 326 (amF P r0_17)).ins 327 (amD P r0_18)).ins 328 (amI r0_18)).ins 329 (amF P r0_18)).ins 330 (amD P r0_19)).ins 331 (amI r0_19)).ins 332 (amF P r0_19)).ins 333 (amD P r0_20)).ins 334 (amI r0_20)).ins 335 (amF P r0_20)).ins 336 (amD P r0_21)).ins 337 (amI r0_21)).ins 338 (amF P r0_21)).ins 339 (amD P r0_22)).ins 340 (amI r0_22)).ins 341 (amF P r0_22))
noncomputable def V9_1 (w : World) (os : OsState) : SharedT := ⟨U9_1 w.params, 342, {}, #[], boot_drawn, 859, os⟩
theorem c9_1 : ∀ w : World, (fun (os : OsState) (k : Result → Sem Fin) (gd : Bool → Bool) (lv : List Value → List Value) => segRunT treeTable PySem.Challenge.pw_ak0021_01 w 11 ann0 2 1868 (V9_0 w os) (thL (pt9 12 11) [.ref 310, .ref 313, .ref 316, .ref 319, .ref 322, .ref 325, .ref 328, .ref 331, .ref 334, .ref 337, .ref 340] ⟨241, 284, 241, 308⟩ k gd lv)) = fun os k gd lv => some (.next, V9_1 w os, cB, ⟨241, 552, 241, 574⟩) := by
  rw [PySem.W.Fast.te10110043849684766642, PySem.W.Fast.te14364793385576792824]
  intro w
  kernel_rfl
noncomputable def W9 (w : World) (os : OsState) : SharedT := ⟨(U9_1 w.params).ins 342 (o342 w.params), 343, {}, #[], boot_drawn, 859, os⟩
theorem n9 : ∀ w : World, (fun (os : OsState) (k : Result → Sem Fin) (gd : Bool → Bool) (lv : List Value → List Value) => segRunT treeTable PySem.Challenge.pw_ak0021_01 w 11 ann0 2 20 (V9_1 w os) (thN [.ref 274, .ref 277, .ref 280, .ref 283, .ref 286, .ref 289, .ref 292, .ref 295, .ref 298, .ref 301, .ref 304, .ref 307, .ref 310, .ref 313, .ref 316, .ref 319, .ref 322, .ref 325, .ref 328, .ref 331, .ref 334, .ref 337, .ref 340] ⟨241, 552, 241, 574⟩ k gd lv)) = fun os k gd lv => some (.ret (.ref 342), W9 w os, cB, ⟨241, 552, 241, 574⟩) := by
  rw [PySem.W.Fast.te10110043849684766642, PySem.W.Fast.te14364793385576792824]
  intro w
  kernel_rfl
theorem a9 : ∀ w : World, (fun (os : OsState) (k : Result → Sem Fin) (gd : Bool → Bool) (lv : List Value → List Value) => segRunT treeTable PySem.Challenge.pw_ak0021_01 w 11 ann0 2 40 (W9 w os) (thA tg9 (.ref 342) ⟨241, 552, 241, 574⟩ k gd lv)) = fun os k gd lv => some (.next, SE9 w os, cB, ⟨241, 4, 241, 7⟩) := by
  rw [PySem.W.Fast.te10110043849684766642, PySem.W.Fast.te14364793385576792824]
  intro w
  kernel_rfl
theorem cut9 : backTo ⟨241, 10, 241, 575⟩ (starEach els9 envB) = (pt9 0 12 ++ (pt9 12 11)) := by kernel_rfl
theorem st9 {w : World} {k : Result → Sem Fin} {os : OsState} {q : Pos} : D' w k 3963 (exec (.Assign [tg9] (.List els9 ⟨241, 10, 241, 575⟩) ⟨241, 4, 241, 575⟩) envB) (SE8 w os).abs q .next (SE9 w os).abs ⟨241, 4, 241, 7⟩ := by
  refine Does.mono (does_asg (vs := [.ref 274, .ref 277, .ref 280, .ref 283, .ref 286, .ref 289, .ref 292, .ref 295, .ref 298, .ref 301, .ref 304, .ref 307, .ref 310, .ref 313, .ref 316, .ref 319, .ref 322, .ref 325, .ref 328, .ref 331, .ref 334, .ref 337, .ref 340]) (d := 342) (n1 := 3901) (n2 := 20) (n3 := 40) (S1 := (V9_1 w os).abs) (S2 := (W9 w os).abs) (q1 := ⟨241, 552, 241, 574⟩) rfl rfl ?_ ?_ ?_) (by decide)
  · rw [cut9]
    exact (does_app (Does.of_segL (b := 2) rfl rfl fun gd lv => segRun_of (congrFun (congrFun (congrFun (congrFun (c9_0 w) os) k) gd) lv)) (Does.of_segL (b := 2) rfl rfl fun gd lv => segRun_of (congrFun (congrFun (congrFun (congrFun (c9_1 w) os) k) gd) lv)))
  · exact Does.of_seg (b := 2) (res := fun v => .ret v) rfl rfl (fun a b h => by cases h; rfl) fun gd lv => segRun_of (congrFun (congrFun (congrFun (congrFun (n9 w) os) k) gd) lv)
  · exact Does.of_seg (b := 2) (res := fun v => v) rfl rfl (fun a b h => h) fun gd lv => segRun_of (congrFun (congrFun (congrFun (congrFun (a9 w) os) k) gd) lv)
noncomputable def els10 : List Expr := eltsOf bodyB[10]?
noncomputable def tg10 : Expr := tgtOf bodyB[10]?
noncomputable def pt10 (i n : Nat) : List (Bool × Sem Value) := ((backTo ⟨242, 10, 242, 1819⟩ (starEach els10 envB)).drop i).take n
theorem body10 : bodyB.drop 10 = Stmt.Assign [tg10] (.List els10 ⟨242, 10, 242, 1819⟩) ⟨242, 4, 242, 1819⟩ :: bodyB.drop 11 := by kernel_rfl
noncomputable def U10_0 (P : Params) : BT := (((((((((((((((((((((((((((((((((((((TE9 P).ins 343 (amD P r1_0)).ins 344 (amI r1_0)).ins 345 (amF P r1_0)).ins 346 (amD P r1_1)).ins 347 (amI r1_1)).ins 348 (amF P r1_1)).ins 349 (amD P r1_2)).ins 350 (amI r1_2)).ins 351 (amF P r1_2)).ins 352 (amD P r1_3)).ins 353 (amI r1_3)).ins 354 (amF P r1_3)).ins 355 (amD P r1_4)).ins 356 (amI r1_4)).ins 357 (amF P r1_4)).ins 358 (amD P r1_5)).ins 359 (amI r1_5)).ins 360 (amF P r1_5)).ins 361 (amD P r1_6)).ins 362 (amI r1_6)).ins 363 (amF P r1_6)).ins 364 (amD P r1_7)).ins 365 (amI r1_7)).ins 366 (amF P r1_7)).ins 367 (amD P r1_8)).ins 368 (amI r1_8)).ins 369 (amF P r1_8)).ins 370 (amD P r1_9)).ins 371 (amI r1_9)).ins 372 (amF P r1_9)).ins 373 (amD P r1_10)).ins 374 (amI r1_10)).ins 375 (amF P r1_10)).ins 376 (amD P r1_11)).ins 377 (amI r1_11)).ins 378 (amF P r1_11))
noncomputable def V10_0 (w : World) (os : OsState) : SharedT := ⟨U10_0 w.params, 379, {}, #[], boot_drawn, 1022, os⟩
theorem c10_0 : ∀ w : World, (fun (os : OsState) (k : Result → Sem Fin) (gd : Bool → Bool) (lv : List Value → List Value) => segRunT treeTable PySem.Challenge.pw_ak0021_01 w 11 ann0 2 2018 (SE9 w os) (thL (pt10 0 12) [.ref 344, .ref 347, .ref 350, .ref 353, .ref 356, .ref 359, .ref 362, .ref 365, .ref 368, .ref 371, .ref 374, .ref 377] ⟨242, 10, 242, 1819⟩ k gd lv)) = fun os k gd lv => some (.next, V10_0 w os, cB, ⟨242, 268, 242, 291⟩) := by
  rw [PySem.W.Fast.te10110043849684766642, PySem.W.Fast.te14364793385576792824]
  intro w
  kernel_rfl
noncomputable def U10_1 (P : Params) : BT := (((((((((((((((((((((((((((((((((((((U10_0 P).ins 379 (amD P r1_12)).ins 380 (amI r1_12)).ins 381 (amF P r1_12)).ins 382 (amD P r1_13)).ins 383 (amI r1_13)).ins 384 (amF P r1_13)).ins 385 (amD P r1_14)).ins 386 (amI r1_14)).ins 387 (amF P r1_14)).ins 388 (amD P r1_15)).ins 389 (amI r1_15)).ins 390 (amF P r1_15)).ins 391 (amD P r1_16)).ins 392 (amI r1_16)).ins 393 (amF P r1_16)).ins 394 (amD P r1_17)).ins 395 (amI r1_17)).ins 396 (amF P r1_17)).ins 397 (amD P r1_18)).ins 398 (amI r1_18)).ins 399 (amF P r1_18)).ins 400 (amD P r1_19)).ins 401 (amI r1_19)).ins 402 (amF P r1_19)).ins 403 (amD P r1_20)).ins 404 (amI r1_20)).ins 405 (amF P r1_20)).ins 406 (amD P r1_21)).ins 407 (amI r1_21)).ins 408 (amF P r1_21)).ins 409 (amD P r1_22)).ins 410 (amI r1_22)).ins 411 (amF P r1_22)).ins 412 (amD P r1_23)).ins 413 (amI r1_23)).ins 414 (amF P r1_23))
noncomputable def V10_1 (w : World) (os : OsState) : SharedT := ⟨U10_1 w.params, 415, {}, #[], boot_drawn, 1179, os⟩
theorem c10_1 : ∀ w : World, (fun (os : OsState) (k : Result → Sem Fin) (gd : Bool → Bool) (lv : List Value → List Value) => segRunT treeTable PySem.Challenge.pw_ak0021_01 w 11 ann0 2 1993 (V10_0 w os) (thL (pt10 12 12) [.ref 380, .ref 383, .ref 386, .ref 389, .ref 392, .ref 395, .ref 398, .ref 401, .ref 404, .ref 407, .ref 410, .ref 413] ⟨242, 268, 242, 291⟩ k gd lv)) = fun os k gd lv => some (.next, V10_1 w os, cB, ⟨242, 572, 242, 596⟩) := by
  rw [PySem.W.Fast.te10110043849684766642, PySem.W.Fast.te14364793385576792824]
  intro w
  kernel_rfl
noncomputable def U10_2 (P : Params) : BT := (((((((((((((((((((((((((((((((((((((U10_1 P).ins 415 (amD P r1_24)).ins 416 (amI r1_24)).ins 417 (amF P r1_24)).ins 418 (amD P r1_25)).ins 419 (amI r1_25)).ins 420 (amF P r1_25)).ins 421 (amD P r1_26)).ins 422 (amI r1_26)).ins 423 (amF P r1_26)).ins 424 (amD P r1_27)).ins 425 (amI r1_27)).ins 426 (amF P r1_27)).ins 427 (amD P r1_28)).ins 428 (amI r1_28)).ins 429 (amF P r1_28)).ins 430 (amD P r1_29)).ins 431 (amI r1_29)).ins 432 (amF P r1_29)).ins 433 (amD P r1_30)).ins 434 (amI r1_30)).ins 435 (amF P r1_30)).ins 436 (amD P r1_31)).ins 437 (amI r1_31)).ins 438 (amF P r1_31)).ins 439 (amD P r1_32)).ins 440 (amI r1_32)).ins 441 (amF P r1_32)).ins 442 (amD P r1_33)).ins 443 (amI r1_33)).ins 444 (amF P r1_33)).ins 445 (amD P r1_34)).ins 446 (amI r1_34)).ins 447 (amF P r1_34)).ins 448 (amD P r1_35)).ins 449 (amI r1_35)).ins 450 (amF P r1_35))
noncomputable def V10_2 (w : World) (os : OsState) : SharedT := ⟨U10_2 w.params, 451, {}, #[], boot_drawn, 1341, os⟩
theorem c10_2 : ∀ w : World, (fun (os : OsState) (k : Result → Sem Fin) (gd : Bool → Bool) (lv : List Value → List Value) => segRunT treeTable PySem.Challenge.pw_ak0021_01 w 11 ann0 2 2018 (V10_1 w os) (thL (pt10 24 12) [.ref 416, .ref 419, .ref 422, .ref 425, .ref 428, .ref 431, .ref 434, .ref 437, .ref 440, .ref 443, .ref 446, .ref 449] ⟨242, 572, 242, 596⟩ k gd lv)) = fun os k gd lv => some (.next, V10_2 w os, cB, ⟨242, 878, 242, 904⟩) := by
  rw [PySem.W.Fast.te10110043849684766642, PySem.W.Fast.te14364793385576792824]
  intro w
  kernel_rfl
noncomputable def U10_3 (P : Params) : BT := (((((((((((((((((((((((((((((((((((((U10_2 P).ins 451 (amD P r1_36)).ins 452 (amI r1_36)).ins 453 (amF P r1_36)).ins 454 (amD P r1_37)).ins 455 (amI r1_37)).ins 456 (amF P r1_37)).ins 457 (amD P r1_38)).ins 458 (amI r1_38)).ins 459 (amF P r1_38)).ins 460 (amD P r1_39)).ins 461 (amI r1_39)).ins 462 (amF P r1_39)).ins 463 (amD P r1_40)).ins 464 (amI r1_40)).ins 465 (amF P r1_40)).ins 466 (amD P r1_41)).ins 467 (amI r1_41)).ins 468 (amF P r1_41)).ins 469 (amD P r1_42)).ins 470 (amI r1_42)).ins 471 (amF P r1_42)).ins 472 (amD P r1_43)).ins 473 (amI r1_43)).ins 474 (amF P r1_43)).ins 475 (amD P r1_44)).ins 476 (amI r1_44)).ins 477 (amF P r1_44)).ins 478 (amD P r1_45)).ins 479 (amI r1_45)).ins 480 (amF P r1_45)).ins 481 (amD P r1_46)).ins 482 (amI r1_46)).ins 483 (amF P r1_46)).ins 484 (amD P r1_47)).ins 485 (amI r1_47)).ins 486 (amF P r1_47))
noncomputable def V10_3 (w : World) (os : OsState) : SharedT := ⟨U10_3 w.params, 487, {}, #[], boot_drawn, 1505, os⟩
theorem c10_3 : ∀ w : World, (fun (os : OsState) (k : Result → Sem Fin) (gd : Bool → Bool) (lv : List Value → List Value) => segRunT treeTable PySem.Challenge.pw_ak0021_01 w 11 ann0 2 2028 (V10_2 w os) (thL (pt10 36 12) [.ref 452, .ref 455, .ref 458, .ref 461, .ref 464, .ref 467, .ref 470, .ref 473, .ref 476, .ref 479, .ref 482, .ref 485] ⟨242, 878, 242, 904⟩ k gd lv)) = fun os k gd lv => some (.next, V10_3 w os, cB, ⟨242, 1186, 242, 1210⟩) := by
  rw [PySem.W.Fast.te10110043849684766642, PySem.W.Fast.te14364793385576792824]
  intro w
  kernel_rfl
noncomputable def U10_4 (P : Params) : BT := (((((((((((((((((((((((((((((((((((((U10_3 P).ins 487 (amD P r1_48)).ins 488 (amI r1_48)).ins 489 (amF P r1_48)).ins 490 (amD P r1_49)).ins 491 (amI r1_49)).ins 492 (amF P r1_49)).ins 493 (amD P r1_50)).ins 494 (amI r1_50)).ins 495 (amF P r1_50)).ins 496 (amD P r1_51)).ins 497 (amI r1_51)).ins 498 (amF P r1_51)).ins 499 (amD P r1_52)).ins 500 (amI r1_52)).ins 501 (amF P r1_52)).ins 502 (amD P r1_53)).ins 503 (amI r1_53)).ins 504 (amF P r1_53)).ins 505 (amD P r1_54)).ins 506 (amI r1_54)).ins 507 (amF P r1_54)).ins 508 (amD P r1_55)).ins 509 (amI r1_55)).ins 510 (amF P r1_55)).ins 511 (amD P r1_56)).ins 512 (amI r1_56)).ins 513 (amF P r1_56)).ins 514 (amD P r1_57)).ins 515 (amI r1_57)).ins 516 (amF P r1_57)).ins 517 (amD P r1_58)).ins 518 (amI r1_58)).ins 519 (amF P r1_58)).ins 520 (amD P r1_59)).ins 521 (amI r1_59)).ins 522 (amF P r1_59))
noncomputable def V10_4 (w : World) (os : OsState) : SharedT := ⟨U10_4 w.params, 523, {}, #[], boot_drawn, 1669, os⟩
theorem c10_4 : ∀ w : World, (fun (os : OsState) (k : Result → Sem Fin) (gd : Bool → Bool) (lv : List Value → List Value) => segRunT treeTable PySem.Challenge.pw_ak0021_01 w 11 ann0 2 2028 (V10_3 w os) (thL (pt10 48 12) [.ref 488, .ref 491, .ref 494, .ref 497, .ref 500, .ref 503, .ref 506, .ref 509, .ref 512, .ref 515, .ref 518, .ref 521] ⟨242, 1186, 242, 1210⟩ k gd lv)) = fun os k gd lv => some (.next, V10_4 w os, cB, ⟨242, 1492, 242, 1516⟩) := by
  rw [PySem.W.Fast.te10110043849684766642, PySem.W.Fast.te14364793385576792824]
  intro w
  kernel_rfl
noncomputable def U10_5 (P : Params) : BT := ((((((((((((((((((((((((((((((((((U10_4 P).ins 523 (amD P r1_60)).ins 524 (amI r1_60)).ins 525 (amF P r1_60)).ins 526 (amD P r1_61)).ins 527 (amI r1_61)).ins 528 (amF P r1_61)).ins 529 (amD P r1_62)).ins 530 (amI r1_62)).ins 531 (amF P r1_62)).ins 532 (amD P r1_63)).ins 533 (amI r1_63)).ins 534 (amF P r1_63)).ins 535 (amD P r1_64)).ins 536 (amI r1_64)).ins 537 (amF P r1_64)).ins 538 (amD P r1_65)).ins 539 (amI r1_65)).ins 540 (amF P r1_65)).ins 541 (amD P r1_66)).ins 542 (amI r1_66)).ins 543 (amF P r1_66)).ins 544 (amD P r1_67)).ins 545 (amI r1_67)).ins 546 (amF P r1_67)).ins 547 (amD P r1_68)).ins 548 (amI r1_68)).ins 549 (amF P r1_68)).ins 550 (amD P r1_69)).ins 551 (amI r1_69)).ins 552 (amF P r1_69)).ins 553 (amD P r1_70)).ins 554 (amI r1_70)).ins 555 (amF P r1_70))
noncomputable def V10_5 (w : World) (os : OsState) : SharedT := ⟨U10_5 w.params, 556, {}, #[], boot_drawn, 1819, os⟩
theorem c10_5 : ∀ w : World, (fun (os : OsState) (k : Result → Sem Fin) (gd : Bool → Bool) (lv : List Value → List Value) => segRunT treeTable PySem.Challenge.pw_ak0021_01 w 11 ann0 2 1858 (V10_4 w os) (thL (pt10 60 11) [.ref 524, .ref 527, .ref 530, .ref 533, .ref 536, .ref 539, .ref 542, .ref 545, .ref 548, .ref 551, .ref 554] ⟨242, 1492, 242, 1516⟩ k gd lv)) = fun os k gd lv => some (.next, V10_5 w os, cB, ⟨242, 1790, 242, 1818⟩) := by
  rw [PySem.W.Fast.te10110043849684766642, PySem.W.Fast.te14364793385576792824]
  intro w
  kernel_rfl
noncomputable def W10 (w : World) (os : OsState) : SharedT := ⟨(U10_5 w.params).ins 556 (o556 w.params), 557, {}, #[], boot_drawn, 1819, os⟩
theorem n10 : ∀ w : World, (fun (os : OsState) (k : Result → Sem Fin) (gd : Bool → Bool) (lv : List Value → List Value) => segRunT treeTable PySem.Challenge.pw_ak0021_01 w 11 ann0 2 20 (V10_5 w os) (thN [.ref 344, .ref 347, .ref 350, .ref 353, .ref 356, .ref 359, .ref 362, .ref 365, .ref 368, .ref 371, .ref 374, .ref 377, .ref 380, .ref 383, .ref 386, .ref 389, .ref 392, .ref 395, .ref 398, .ref 401, .ref 404, .ref 407, .ref 410, .ref 413, .ref 416, .ref 419, .ref 422, .ref 425, .ref 428, .ref 431, .ref 434, .ref 437, .ref 440, .ref 443, .ref 446, .ref 449, .ref 452, .ref 455, .ref 458, .ref 461, .ref 464, .ref 467, .ref 470, .ref 473, .ref 476, .ref 479, .ref 482, .ref 485, .ref 488, .ref 491, .ref 494, .ref 497, .ref 500, .ref 503, .ref 506, .ref 509, .ref 512, .ref 515, .ref 518, .ref 521, .ref 524, .ref 527, .ref 530, .ref 533, .ref 536, .ref 539, .ref 542, .ref 545, .ref 548, .ref 551, .ref 554] ⟨242, 1790, 242, 1818⟩ k gd lv)) = fun os k gd lv => some (.ret (.ref 556), W10 w os, cB, ⟨242, 1790, 242, 1818⟩) := by
  rw [PySem.W.Fast.te10110043849684766642, PySem.W.Fast.te14364793385576792824]
  intro w
  kernel_rfl
theorem a10 : ∀ w : World, (fun (os : OsState) (k : Result → Sem Fin) (gd : Bool → Bool) (lv : List Value → List Value) => segRunT treeTable PySem.Challenge.pw_ak0021_01 w 11 ann0 2 40 (W10 w os) (thA tg10 (.ref 556) ⟨242, 1790, 242, 1818⟩ k gd lv)) = fun os k gd lv => some (.next, SE10 w os, cB, ⟨242, 4, 242, 7⟩) := by
  rw [PySem.W.Fast.te10110043849684766642, PySem.W.Fast.te14364793385576792824]
  intro w
  kernel_rfl
theorem cut10 : backTo ⟨242, 10, 242, 1819⟩ (starEach els10 envB) = (pt10 0 12 ++ (pt10 12 12 ++ (pt10 24 12 ++ (pt10 36 12 ++ (pt10 48 12 ++ (pt10 60 11)))))) := by kernel_rfl
theorem st10 {w : World} {k : Result → Sem Fin} {os : OsState} {q : Pos} : D' w k 12005 (exec (.Assign [tg10] (.List els10 ⟨242, 10, 242, 1819⟩) ⟨242, 4, 242, 1819⟩) envB) (SE9 w os).abs q .next (SE10 w os).abs ⟨242, 4, 242, 7⟩ := by
  refine Does.mono (does_asg (vs := [.ref 344, .ref 347, .ref 350, .ref 353, .ref 356, .ref 359, .ref 362, .ref 365, .ref 368, .ref 371, .ref 374, .ref 377, .ref 380, .ref 383, .ref 386, .ref 389, .ref 392, .ref 395, .ref 398, .ref 401, .ref 404, .ref 407, .ref 410, .ref 413, .ref 416, .ref 419, .ref 422, .ref 425, .ref 428, .ref 431, .ref 434, .ref 437, .ref 440, .ref 443, .ref 446, .ref 449, .ref 452, .ref 455, .ref 458, .ref 461, .ref 464, .ref 467, .ref 470, .ref 473, .ref 476, .ref 479, .ref 482, .ref 485, .ref 488, .ref 491, .ref 494, .ref 497, .ref 500, .ref 503, .ref 506, .ref 509, .ref 512, .ref 515, .ref 518, .ref 521, .ref 524, .ref 527, .ref 530, .ref 533, .ref 536, .ref 539, .ref 542, .ref 545, .ref 548, .ref 551, .ref 554]) (d := 556) (n1 := 11943) (n2 := 20) (n3 := 40) (S1 := (V10_5 w os).abs) (S2 := (W10 w os).abs) (q1 := ⟨242, 1790, 242, 1818⟩) rfl rfl ?_ ?_ ?_) (by decide)
  · rw [cut10]
    exact (does_app (Does.of_segL (b := 2) rfl rfl fun gd lv => segRun_of (congrFun (congrFun (congrFun (congrFun (c10_0 w) os) k) gd) lv)) (does_app (Does.of_segL (b := 2) rfl rfl fun gd lv => segRun_of (congrFun (congrFun (congrFun (congrFun (c10_1 w) os) k) gd) lv)) (does_app (Does.of_segL (b := 2) rfl rfl fun gd lv => segRun_of (congrFun (congrFun (congrFun (congrFun (c10_2 w) os) k) gd) lv)) (does_app (Does.of_segL (b := 2) rfl rfl fun gd lv => segRun_of (congrFun (congrFun (congrFun (congrFun (c10_3 w) os) k) gd) lv)) (does_app (Does.of_segL (b := 2) rfl rfl fun gd lv => segRun_of (congrFun (congrFun (congrFun (congrFun (c10_4 w) os) k) gd) lv)) (Does.of_segL (b := 2) rfl rfl fun gd lv => segRun_of (congrFun (congrFun (congrFun (congrFun (c10_5 w) os) k) gd) lv)))))))
  · exact Does.of_seg (b := 2) (res := fun v => .ret v) rfl rfl (fun a b h => by cases h; rfl) fun gd lv => segRun_of (congrFun (congrFun (congrFun (congrFun (n10 w) os) k) gd) lv)
  · exact Does.of_seg (b := 2) (res := fun v => v) rfl rfl (fun a b h => h) fun gd lv => segRun_of (congrFun (congrFun (congrFun (congrFun (a10 w) os) k) gd) lv)
noncomputable def els11 : List Expr := eltsOf bodyB[11]?
noncomputable def tg11 : Expr := tgtOf bodyB[11]?
noncomputable def pt11 (i n : Nat) : List (Bool × Sem Value) := ((backTo ⟨243, 10, 243, 988⟩ (starEach els11 envB)).drop i).take n
theorem body11 : bodyB.drop 11 = Stmt.Assign [tg11] (.List els11 ⟨243, 10, 243, 988⟩) ⟨243, 4, 243, 988⟩ :: bodyB.drop 12 := by kernel_rfl
noncomputable def U11_0 (P : Params) : BT := (((((((((((((((((((((((((((((((TE10 P).ins 557 (amD P r2_0)).ins 558 (amI r2_0)).ins 559 (amF P r2_0)).ins 560 (amD P r2_1)).ins 561 (amI r2_1)).ins 562 (amF P r2_1)).ins 563 (amD P r2_2)).ins 564 (amI r2_2)).ins 565 (amF P r2_2)).ins 566 (amD P r2_3)).ins 567 (amI r2_3)).ins 568 (amF P r2_3)).ins 569 (amD P r2_4)).ins 570 (amI r2_4)).ins 571 (amF P r2_4)).ins 572 (amD P r2_5)).ins 573 (amI r2_5)).ins 574 (amF P r2_5)).ins 575 (amD P r2_6)).ins 576 (amI r2_6)).ins 577 (amF P r2_6)).ins 578 (amD P r2_7)).ins 579 (amI r2_7)).ins 580 (amF P r2_7)).ins 581 (amD P r2_8)).ins 582 (amI r2_8)).ins 583 (amF P r2_8)).ins 584 (amD P r2_9)).ins 585 (amI r2_9)).ins 586 (amF P r2_9))
noncomputable def V11_0 (w : World) (os : OsState) : SharedT := ⟨U11_0 w.params, 587, {}, #[], boot_drawn, 1958, os⟩
theorem c11_0 : ∀ w : World, (fun (os : OsState) (k : Result → Sem Fin) (gd : Bool → Bool) (lv : List Value → List Value) => segRunT treeTable PySem.Challenge.pw_ak0021_01 w 11 ann0 2 1698 (SE10 w os) (thL (pt11 0 10) [.ref 558, .ref 561, .ref 564, .ref 567, .ref 570, .ref 573, .ref 576, .ref 579, .ref 582, .ref 585] ⟨243, 10, 243, 988⟩ k gd lv)) = fun os k gd lv => some (.next, V11_0 w os, cB, ⟨243, 223, 243, 245⟩) := by
  rw [PySem.W.Fast.te10110043849684766642, PySem.W.Fast.te14364793385576792824]
  intro w
  kernel_rfl
noncomputable def U11_1 (P : Params) : BT := (((((((((((((((((((((((((((((((U11_0 P).ins 587 (amD P r2_10)).ins 588 (amI r2_10)).ins 589 (amF P r2_10)).ins 590 (amD P r2_11)).ins 591 (amI r2_11)).ins 592 (amF P r2_11)).ins 593 (amD P r2_12)).ins 594 (amI r2_12)).ins 595 (amF P r2_12)).ins 596 (amD P r2_13)).ins 597 (amI r2_13)).ins 598 (amF P r2_13)).ins 599 (amD P r2_14)).ins 600 (amI r2_14)).ins 601 (amF P r2_14)).ins 602 (amD P r2_15)).ins 603 (amI r2_15)).ins 604 (amF P r2_15)).ins 605 (amD P r2_16)).ins 606 (amI r2_16)).ins 607 (amF P r2_16)).ins 608 (amD P r2_17)).ins 609 (amI r2_17)).ins 610 (amF P r2_17)).ins 611 (amD P r2_18)).ins 612 (amI r2_18)).ins 613 (amF P r2_18)).ins 614 (amD P r2_19)).ins 615 (amI r2_19)).ins 616 (amF P r2_19))
noncomputable def V11_1 (w : World) (os : OsState) : SharedT := ⟨U11_1 w.params, 617, {}, #[], boot_drawn, 2094, os⟩
theorem c11_1 : ∀ w : World, (fun (os : OsState) (k : Result → Sem Fin) (gd : Bool → Bool) (lv : List Value → List Value) => segRunT treeTable PySem.Challenge.pw_ak0021_01 w 11 ann0 2 1688 (V11_0 w os) (thL (pt11 10 10) [.ref 588, .ref 591, .ref 594, .ref 597, .ref 600, .ref 603, .ref 606, .ref 609, .ref 612, .ref 615] ⟨243, 223, 243, 245⟩ k gd lv)) = fun os k gd lv => some (.next, V11_1 w os, cB, ⟨243, 475, 243, 497⟩) := by
  rw [PySem.W.Fast.te10110043849684766642, PySem.W.Fast.te14364793385576792824]
  intro w
  kernel_rfl
noncomputable def U11_2 (P : Params) : BT := (((((((((((((((((((((((((((((((U11_1 P).ins 617 (amD P r2_20)).ins 618 (amI r2_20)).ins 619 (amF P r2_20)).ins 620 (amD P r2_21)).ins 621 (amI r2_21)).ins 622 (amF P r2_21)).ins 623 (amD P r2_22)).ins 624 (amI r2_22)).ins 625 (amF P r2_22)).ins 626 (amD P r2_23)).ins 627 (amI r2_23)).ins 628 (amF P r2_23)).ins 629 (amD P r2_24)).ins 630 (amI r2_24)).ins 631 (amF P r2_24)).ins 632 (amD P r2_25)).ins 633 (amI r2_25)).ins 634 (amF P r2_25)).ins 635 (amD P r2_26)).ins 636 (amI r2_26)).ins 637 (amF P r2_26)).ins 638 (amD P r2_27)).ins 639 (amI r2_27)).ins 640 (amF P r2_27)).ins 641 (amD P r2_28)).ins 642 (amI r2_28)).ins 643 (amF P r2_28)).ins 644 (amD P r2_29)).ins 645 (amI r2_29)).ins 646 (amF P r2_29))
noncomputable def V11_2 (w : World) (os : OsState) : SharedT := ⟨U11_2 w.params, 647, {}, #[], boot_drawn, 2231, os⟩
theorem c11_2 : ∀ w : World, (fun (os : OsState) (k : Result → Sem Fin) (gd : Bool → Bool) (lv : List Value → List Value) => segRunT treeTable PySem.Challenge.pw_ak0021_01 w 11 ann0 2 1693 (V11_1 w os) (thL (pt11 20 10) [.ref 618, .ref 621, .ref 624, .ref 627, .ref 630, .ref 633, .ref 636, .ref 639, .ref 642, .ref 645] ⟨243, 475, 243, 497⟩ k gd lv)) = fun os k gd lv => some (.next, V11_2 w os, cB, ⟨243, 713, 243, 733⟩) := by
  rw [PySem.W.Fast.te10110043849684766642, PySem.W.Fast.te14364793385576792824]
  intro w
  kernel_rfl
noncomputable def U11_3 (P : Params) : BT := (((((((((((((((((((((((((((((((U11_2 P).ins 647 (amD P r2_30)).ins 648 (amI r2_30)).ins 649 (amF P r2_30)).ins 650 (amD P r2_31)).ins 651 (amI r2_31)).ins 652 (amF P r2_31)).ins 653 (amD P r2_32)).ins 654 (amI r2_32)).ins 655 (amF P r2_32)).ins 656 (amD P r2_33)).ins 657 (amI r2_33)).ins 658 (amF P r2_33)).ins 659 (amD P r2_34)).ins 660 (amI r2_34)).ins 661 (amF P r2_34)).ins 662 (amD P r2_35)).ins 663 (amI r2_35)).ins 664 (amF P r2_35)).ins 665 (amD P r2_36)).ins 666 (amI r2_36)).ins 667 (amF P r2_36)).ins 668 (amD P r2_37)).ins 669 (amI r2_37)).ins 670 (amF P r2_37)).ins 671 (amD P r2_38)).ins 672 (amI r2_38)).ins 673 (amF P r2_38)).ins 674 (amD P r2_39)).ins 675 (amI r2_39)).ins 676 (amF P r2_39))
noncomputable def V11_3 (w : World) (os : OsState) : SharedT := ⟨U11_3 w.params, 677, {}, #[], boot_drawn, 2361, os⟩
theorem c11_3 : ∀ w : World, (fun (os : OsState) (k : Result → Sem Fin) (gd : Bool → Bool) (lv : List Value → List Value) => segRunT treeTable PySem.Challenge.pw_ak0021_01 w 11 ann0 2 1658 (V11_2 w os) (thL (pt11 30 10) [.ref 648, .ref 651, .ref 654, .ref 657, .ref 660, .ref 663, .ref 666, .ref 669, .ref 672, .ref 675] ⟨243, 713, 243, 733⟩ k gd lv)) = fun os k gd lv => some (.next, V11_3 w os, cB, ⟨243, 965, 243, 987⟩) := by
  rw [PySem.W.Fast.te10110043849684766642, PySem.W.Fast.te14364793385576792824]
  intro w
  kernel_rfl
noncomputable def W11 (w : World) (os : OsState) : SharedT := ⟨(U11_3 w.params).ins 677 (o677 w.params), 678, {}, #[], boot_drawn, 2361, os⟩
theorem n11 : ∀ w : World, (fun (os : OsState) (k : Result → Sem Fin) (gd : Bool → Bool) (lv : List Value → List Value) => segRunT treeTable PySem.Challenge.pw_ak0021_01 w 11 ann0 2 20 (V11_3 w os) (thN [.ref 558, .ref 561, .ref 564, .ref 567, .ref 570, .ref 573, .ref 576, .ref 579, .ref 582, .ref 585, .ref 588, .ref 591, .ref 594, .ref 597, .ref 600, .ref 603, .ref 606, .ref 609, .ref 612, .ref 615, .ref 618, .ref 621, .ref 624, .ref 627, .ref 630, .ref 633, .ref 636, .ref 639, .ref 642, .ref 645, .ref 648, .ref 651, .ref 654, .ref 657, .ref 660, .ref 663, .ref 666, .ref 669, .ref 672, .ref 675] ⟨243, 965, 243, 987⟩ k gd lv)) = fun os k gd lv => some (.ret (.ref 677), W11 w os, cB, ⟨243, 965, 243, 987⟩) := by
  rw [PySem.W.Fast.te10110043849684766642, PySem.W.Fast.te14364793385576792824]
  intro w
  kernel_rfl
theorem a11 : ∀ w : World, (fun (os : OsState) (k : Result → Sem Fin) (gd : Bool → Bool) (lv : List Value → List Value) => segRunT treeTable PySem.Challenge.pw_ak0021_01 w 11 ann0 2 40 (W11 w os) (thA tg11 (.ref 677) ⟨243, 965, 243, 987⟩ k gd lv)) = fun os k gd lv => some (.next, SE11 w os, cB, ⟨243, 4, 243, 7⟩) := by
  rw [PySem.W.Fast.te10110043849684766642, PySem.W.Fast.te14364793385576792824]
  intro w
  kernel_rfl
theorem cut11 : backTo ⟨243, 10, 243, 988⟩ (starEach els11 envB) = (pt11 0 10 ++ (pt11 10 10 ++ (pt11 20 10 ++ (pt11 30 10)))) := by kernel_rfl
theorem st11 {w : World} {k : Result → Sem Fin} {os : OsState} {q : Pos} : D' w k 6799 (exec (.Assign [tg11] (.List els11 ⟨243, 10, 243, 988⟩) ⟨243, 4, 243, 988⟩) envB) (SE10 w os).abs q .next (SE11 w os).abs ⟨243, 4, 243, 7⟩ := by
  refine Does.mono (does_asg (vs := [.ref 558, .ref 561, .ref 564, .ref 567, .ref 570, .ref 573, .ref 576, .ref 579, .ref 582, .ref 585, .ref 588, .ref 591, .ref 594, .ref 597, .ref 600, .ref 603, .ref 606, .ref 609, .ref 612, .ref 615, .ref 618, .ref 621, .ref 624, .ref 627, .ref 630, .ref 633, .ref 636, .ref 639, .ref 642, .ref 645, .ref 648, .ref 651, .ref 654, .ref 657, .ref 660, .ref 663, .ref 666, .ref 669, .ref 672, .ref 675]) (d := 677) (n1 := 6737) (n2 := 20) (n3 := 40) (S1 := (V11_3 w os).abs) (S2 := (W11 w os).abs) (q1 := ⟨243, 965, 243, 987⟩) rfl rfl ?_ ?_ ?_) (by decide)
  · rw [cut11]
    exact (does_app (Does.of_segL (b := 2) rfl rfl fun gd lv => segRun_of (congrFun (congrFun (congrFun (congrFun (c11_0 w) os) k) gd) lv)) (does_app (Does.of_segL (b := 2) rfl rfl fun gd lv => segRun_of (congrFun (congrFun (congrFun (congrFun (c11_1 w) os) k) gd) lv)) (does_app (Does.of_segL (b := 2) rfl rfl fun gd lv => segRun_of (congrFun (congrFun (congrFun (congrFun (c11_2 w) os) k) gd) lv)) (Does.of_segL (b := 2) rfl rfl fun gd lv => segRun_of (congrFun (congrFun (congrFun (congrFun (c11_3 w) os) k) gd) lv)))))
  · exact Does.of_seg (b := 2) (res := fun v => .ret v) rfl rfl (fun a b h => by cases h; rfl) fun gd lv => segRun_of (congrFun (congrFun (congrFun (congrFun (n11 w) os) k) gd) lv)
  · exact Does.of_seg (b := 2) (res := fun v => v) rfl rfl (fun a b h => h) fun gd lv => segRun_of (congrFun (congrFun (congrFun (congrFun (a11 w) os) k) gd) lv)
noncomputable def els12 : List Expr := eltsOf bodyB[12]?
noncomputable def tg12 : Expr := tgtOf bodyB[12]?
noncomputable def pt12 (i n : Nat) : List (Bool × Sem Value) := ((backTo ⟨244, 10, 244, 1423⟩ (starEach els12 envB)).drop i).take n
theorem body12 : bodyB.drop 12 = Stmt.Assign [tg12] (.List els12 ⟨244, 10, 244, 1423⟩) ⟨244, 4, 244, 1423⟩ :: bodyB.drop 13 := by kernel_rfl
noncomputable def U12_0 (P : Params) : BT := (((((((((((((((((((((((((((((((((((((TE11 P).ins 678 (amD P r3_0)).ins 679 (amI r3_0)).ins 680 (amF P r3_0)).ins 681 (amD P r3_1)).ins 682 (amI r3_1)).ins 683 (amF P r3_1)).ins 684 (amD P r3_2)).ins 685 (amI r3_2)).ins 686 (amF P r3_2)).ins 687 (amD P r3_3)).ins 688 (amI r3_3)).ins 689 (amF P r3_3)).ins 690 (amD P r3_4)).ins 691 (amI r3_4)).ins 692 (amF P r3_4)).ins 693 (amD P r3_5)).ins 694 (amI r3_5)).ins 695 (amF P r3_5)).ins 696 (amD P r3_6)).ins 697 (amI r3_6)).ins 698 (amF P r3_6)).ins 699 (amD P r3_7)).ins 700 (amI r3_7)).ins 701 (amF P r3_7)).ins 702 (amD P r3_8)).ins 703 (amI r3_8)).ins 704 (amF P r3_8)).ins 705 (amD P r3_9)).ins 706 (amI r3_9)).ins 707 (amF P r3_9)).ins 708 (amD P r3_10)).ins 709 (amI r3_10)).ins 710 (amF P r3_10)).ins 711 (amD P r3_11)).ins 712 (amI r3_11)).ins 713 (amF P r3_11))
noncomputable def V12_0 (w : World) (os : OsState) : SharedT := ⟨U12_0 w.params, 714, {}, #[], boot_drawn, 2523, os⟩
theorem c12_0 : ∀ w : World, (fun (os : OsState) (k : Result → Sem Fin) (gd : Bool → Bool) (lv : List Value → List Value) => segRunT treeTable PySem.Challenge.pw_ak0021_01 w 11 ann0 2 2013 (SE11 w os) (thL (pt12 0 12) [.ref 679, .ref 682, .ref 685, .ref 688, .ref 691, .ref 694, .ref 697, .ref 700, .ref 703, .ref 706, .ref 709, .ref 712] ⟨244, 10, 244, 1423⟩ k gd lv)) = fun os k gd lv => some (.next, V12_0 w os, cB, ⟨244, 272, 244, 290⟩) := by
  rw [PySem.W.Fast.te10110043849684766642, PySem.W.Fast.te14364793385576792824]
  intro w
  kernel_rfl
noncomputable def U12_1 (P : Params) : BT := (((((((((((((((((((((((((((((((((((((U12_0 P).ins 714 (amD P r3_12)).ins 715 (amI r3_12)).ins 716 (amF P r3_12)).ins 717 (amD P r3_13)).ins 718 (amI r3_13)).ins 719 (amF P r3_13)).ins 720 (amD P r3_14)).ins 721 (amI r3_14)).ins 722 (amF P r3_14)).ins 723 (amD P r3_15)).ins 724 (amI r3_15)).ins 725 (amF P r3_15)).ins 726 (amD P r3_16)).ins 727 (amI r3_16)).ins 728 (amF P r3_16)).ins 729 (amD P r3_17)).ins 730 (amI r3_17)).ins 731 (amF P r3_17)).ins 732 (amD P r3_18)).ins 733 (amI r3_18)).ins 734 (amF P r3_18)).ins 735 (amD P r3_19)).ins 736 (amI r3_19)).ins 737 (amF P r3_19)).ins 738 (amD P r3_20)).ins 739 (amI r3_20)).ins 740 (amF P r3_20)).ins 741 (amD P r3_21)).ins 742 (amI r3_21)).ins 743 (amF P r3_21)).ins 744 (amD P r3_22)).ins 745 (amI r3_22)).ins 746 (amF P r3_22)).ins 747 (amD P r3_23)).ins 748 (amI r3_23)).ins 749 (amF P r3_23))
noncomputable def V12_1 (w : World) (os : OsState) : SharedT := ⟨U12_1 w.params, 750, {}, #[], boot_drawn, 2682, os⟩
theorem c12_1 : ∀ w : World, (fun (os : OsState) (k : Result → Sem Fin) (gd : Bool → Bool) (lv : List Value → List Value) => segRunT treeTable PySem.Challenge.pw_ak0021_01 w 11 ann0 2 2003 (V12_0 w os) (thL (pt12 12 12) [.ref 715, .ref 718, .ref 721, .ref 724, .ref 727, .ref 730, .ref 733, .ref 736, .ref 739, .ref 742, .ref 745, .ref 748] ⟨244, 272, 244, 290⟩ k gd lv)) = fun os k gd lv => some (.next, V12_1 w os, cB, ⟨244, 568, 244, 594⟩) := by
  rw [PySem.W.Fast.te10110043849684766642, PySem.W.Fast.te14364793385576792824]
  intro w
  kernel_rfl
noncomputable def U12_2 (P : Params) : BT := ((((((((((((((((((((((((((((((((((U12_1 P).ins 750 (amD P r3_24)).ins 751 (amI r3_24)).ins 752 (amF P r3_24)).ins 753 (amD P r3_25)).ins 754 (amI r3_25)).ins 755 (amF P r3_25)).ins 756 (amD P r3_26)).ins 757 (amI r3_26)).ins 758 (amF P r3_26)).ins 759 (amD P r3_27)).ins 760 (amI r3_27)).ins 761 (amF P r3_27)).ins 762 (amD P r3_28)).ins 763 (amI r3_28)).ins 764 (amF P r3_28)).ins 765 (amD P r3_29)).ins 766 (amI r3_29)).ins 767 (amF P r3_29)).ins 768 (amD P r3_30)).ins 769 (amI r3_30)).ins 770 (amF P r3_30)).ins 771 (amD P r3_31)).ins 772 (amI r3_31)).ins 773 (amF P r3_31)).ins 774 (amD P r3_32)).ins 775 (amI r3_32)).ins 776 (amF P r3_32)).ins 777 (amD P r3_33)).ins 778 (amI r3_33)).ins 779 (amF P r3_33)).ins 780 (amD P r3_34)).ins 781 (amI r3_34)).ins 782 (amF P r3_34))
noncomputable def V12_2 (w : World) (os : OsState) : SharedT := ⟨U12_2 w.params, 783, {}, #[], boot_drawn, 2826, os⟩
theorem c12_2 : ∀ w : World, (fun (os : OsState) (k : Result → Sem Fin) (gd : Bool → Bool) (lv : List Value → List Value) => segRunT treeTable PySem.Challenge.pw_ak0021_01 w 11 ann0 2 1828 (V12_1 w os) (thL (pt12 24 11) [.ref 751, .ref 754, .ref 757, .ref 760, .ref 763, .ref 766, .ref 769, .ref 772, .ref 775, .ref 778, .ref 781] ⟨244, 568, 244, 594⟩ k gd lv)) = fun os k gd lv => some (.next, V12_2 w os, cB, ⟨244, 854, 244, 878⟩) := by
  rw [PySem.W.Fast.te10110043849684766642, PySem.W.Fast.te14364793385576792824]
  intro w
  kernel_rfl
noncomputable def U12_3 (P : Params) : BT := ((((((((((((((((((((((((((((((((((U12_2 P).ins 783 (amD P r3_35)).ins 784 (amI r3_35)).ins 785 (amF P r3_35)).ins 786 (amD P r3_36)).ins 787 (amI r3_36)).ins 788 (amF P r3_36)).ins 789 (amD P r3_37)).ins 790 (amI r3_37)).ins 791 (amF P r3_37)).ins 792 (amD P r3_38)).ins 793 (amI r3_38)).ins 794 (amF P r3_38)).ins 795 (amD P r3_39)).ins 796 (amI r3_39)).ins 797 (amF P r3_39)).ins 798 (amD P r3_40)).ins 799 (amI r3_40)).ins 800 (amF P r3_40)).ins 801 (amD P r3_41)).ins 802 (amI r3_41)).ins 803 (amF P r3_41)).ins 804 (amD P r3_42)).ins 805 (amI r3_42)).ins 806 (amF P r3_42)).ins 807 (amD P r3_43)).ins 808 (amI r3_43)).ins 809 (amF P r3_43)).ins 810 (amD P r3_44)).ins 811 (amI r3_44)).ins 812 (amF P r3_44)).ins 813 (amD P r3_45)).ins 814 (amI r3_45)).ins 815 (amF P r3_45))
noncomputable def V12_3 (w : World) (os : OsState) : SharedT := ⟨U12_3 w.params, 816, {}, #[], boot_drawn, 2975, os⟩
theorem c12_3 : ∀ w : World, (fun (os : OsState) (k : Result → Sem Fin) (gd : Bool → Bool) (lv : List Value → List Value) => segRunT treeTable PySem.Challenge.pw_ak0021_01 w 11 ann0 2 1853 (V12_2 w os) (thL (pt12 35 11) [.ref 784, .ref 787, .ref 790, .ref 793, .ref 796, .ref 799, .ref 802, .ref 805, .ref 808, .ref 811, .ref 814] ⟨244, 854, 244, 878⟩ k gd lv)) = fun os k gd lv => some (.next, V12_3 w os, cB, ⟨244, 1134, 244, 1154⟩) := by
  rw [PySem.W.Fast.te10110043849684766642, PySem.W.Fast.te14364793385576792824]
  intro w
  kernel_rfl
noncomputable def U12_4 (P : Params) : BT := ((((((((((((((((((((((((((((((((((U12_3 P).ins 816 (amD P r3_46)).ins 817 (amI r3_46)).ins 818 (amF P r3_46)).ins 819 (amD P r3_47)).ins 820 (amI r3_47)).ins 821 (amF P r3_47)).ins 822 (amD P r3_48)).ins 823 (amI r3_48)).ins 824 (amF P r3_48)).ins 825 (amD P r3_49)).ins 826 (amI r3_49)).ins 827 (amF P r3_49)).ins 828 (amD P r3_50)).ins 829 (amI r3_50)).ins 830 (amF P r3_50)).ins 831 (amD P r3_51)).ins 832 (amI r3_51)).ins 833 (amF P r3_51)).ins 834 (amD P r3_52)).ins 835 (amI r3_52)).ins 836 (amF P r3_52)).ins 837 (amD P r3_53)).ins 838 (amI r3_53)).ins 839 (amF P r3_53)).ins 840 (amD P r3_54)).ins 841 (amI r3_54)).ins 842 (amF P r3_54)).ins 843 (amD P r3_55)).ins 844 (amI r3_55)).ins 845 (amF P r3_55)).ins 846 (amD P r3_56)).ins 847 (amI r3_56)).ins 848 (amF P r3_56))
noncomputable def V12_4 (w : World) (os : OsState) : SharedT := ⟨U12_4 w.params, 849, {}, #[], boot_drawn, 3119, os⟩
theorem c12_4 : ∀ w : World, (fun (os : OsState) (k : Result → Sem Fin) (gd : Bool → Bool) (lv : List Value → List Value) => segRunT treeTable PySem.Challenge.pw_ak0021_01 w 11 ann0 2 1828 (V12_3 w os) (thL (pt12 46 11) [.ref 817, .ref 820, .ref 823, .ref 826, .ref 829, .ref 832, .ref 835, .ref 838, .ref 841, .ref 844, .ref 847] ⟨244, 1134, 244, 1154⟩ k gd lv)) = fun os k gd lv => some (.next, V12_4 w os, cB, ⟨244, 1400, 244, 1422⟩) := by
  rw [PySem.W.Fast.te10110043849684766642, PySem.W.Fast.te14364793385576792824]
  intro w
  kernel_rfl
noncomputable def W12 (w : World) (os : OsState) : SharedT := ⟨(U12_4 w.params).ins 849 (o849 w.params), 850, {}, #[], boot_drawn, 3119, os⟩
theorem n12 : ∀ w : World, (fun (os : OsState) (k : Result → Sem Fin) (gd : Bool → Bool) (lv : List Value → List Value) => segRunT treeTable PySem.Challenge.pw_ak0021_01 w 11 ann0 2 20 (V12_4 w os) (thN [.ref 679, .ref 682, .ref 685, .ref 688, .ref 691, .ref 694, .ref 697, .ref 700, .ref 703, .ref 706, .ref 709, .ref 712, .ref 715, .ref 718, .ref 721, .ref 724, .ref 727, .ref 730, .ref 733, .ref 736, .ref 739, .ref 742, .ref 745, .ref 748, .ref 751, .ref 754, .ref 757, .ref 760, .ref 763, .ref 766, .ref 769, .ref 772, .ref 775, .ref 778, .ref 781, .ref 784, .ref 787, .ref 790, .ref 793, .ref 796, .ref 799, .ref 802, .ref 805, .ref 808, .ref 811, .ref 814, .ref 817, .ref 820, .ref 823, .ref 826, .ref 829, .ref 832, .ref 835, .ref 838, .ref 841, .ref 844, .ref 847] ⟨244, 1400, 244, 1422⟩ k gd lv)) = fun os k gd lv => some (.ret (.ref 849), W12 w os, cB, ⟨244, 1400, 244, 1422⟩) := by
  rw [PySem.W.Fast.te10110043849684766642, PySem.W.Fast.te14364793385576792824]
  intro w
  kernel_rfl
theorem a12 : ∀ w : World, (fun (os : OsState) (k : Result → Sem Fin) (gd : Bool → Bool) (lv : List Value → List Value) => segRunT treeTable PySem.Challenge.pw_ak0021_01 w 11 ann0 2 40 (W12 w os) (thA tg12 (.ref 849) ⟨244, 1400, 244, 1422⟩ k gd lv)) = fun os k gd lv => some (.next, SE12 w os, cB, ⟨244, 4, 244, 7⟩) := by
  rw [PySem.W.Fast.te10110043849684766642, PySem.W.Fast.te14364793385576792824]
  intro w
  kernel_rfl
theorem cut12 : backTo ⟨244, 10, 244, 1423⟩ (starEach els12 envB) = (pt12 0 12 ++ (pt12 12 12 ++ (pt12 24 11 ++ (pt12 35 11 ++ (pt12 46 11))))) := by kernel_rfl
theorem st12 {w : World} {k : Result → Sem Fin} {os : OsState} {q : Pos} : D' w k 9587 (exec (.Assign [tg12] (.List els12 ⟨244, 10, 244, 1423⟩) ⟨244, 4, 244, 1423⟩) envB) (SE11 w os).abs q .next (SE12 w os).abs ⟨244, 4, 244, 7⟩ := by
  refine Does.mono (does_asg (vs := [.ref 679, .ref 682, .ref 685, .ref 688, .ref 691, .ref 694, .ref 697, .ref 700, .ref 703, .ref 706, .ref 709, .ref 712, .ref 715, .ref 718, .ref 721, .ref 724, .ref 727, .ref 730, .ref 733, .ref 736, .ref 739, .ref 742, .ref 745, .ref 748, .ref 751, .ref 754, .ref 757, .ref 760, .ref 763, .ref 766, .ref 769, .ref 772, .ref 775, .ref 778, .ref 781, .ref 784, .ref 787, .ref 790, .ref 793, .ref 796, .ref 799, .ref 802, .ref 805, .ref 808, .ref 811, .ref 814, .ref 817, .ref 820, .ref 823, .ref 826, .ref 829, .ref 832, .ref 835, .ref 838, .ref 841, .ref 844, .ref 847]) (d := 849) (n1 := 9525) (n2 := 20) (n3 := 40) (S1 := (V12_4 w os).abs) (S2 := (W12 w os).abs) (q1 := ⟨244, 1400, 244, 1422⟩) rfl rfl ?_ ?_ ?_) (by decide)
  · rw [cut12]
    exact (does_app (Does.of_segL (b := 2) rfl rfl fun gd lv => segRun_of (congrFun (congrFun (congrFun (congrFun (c12_0 w) os) k) gd) lv)) (does_app (Does.of_segL (b := 2) rfl rfl fun gd lv => segRun_of (congrFun (congrFun (congrFun (congrFun (c12_1 w) os) k) gd) lv)) (does_app (Does.of_segL (b := 2) rfl rfl fun gd lv => segRun_of (congrFun (congrFun (congrFun (congrFun (c12_2 w) os) k) gd) lv)) (does_app (Does.of_segL (b := 2) rfl rfl fun gd lv => segRun_of (congrFun (congrFun (congrFun (congrFun (c12_3 w) os) k) gd) lv)) (Does.of_segL (b := 2) rfl rfl fun gd lv => segRun_of (congrFun (congrFun (congrFun (congrFun (c12_4 w) os) k) gd) lv))))))
  · exact Does.of_seg (b := 2) (res := fun v => .ret v) rfl rfl (fun a b h => by cases h; rfl) fun gd lv => segRun_of (congrFun (congrFun (congrFun (congrFun (n12 w) os) k) gd) lv)
  · exact Does.of_seg (b := 2) (res := fun v => v) rfl rfl (fun a b h => h) fun gd lv => segRun_of (congrFun (congrFun (congrFun (congrFun (a12 w) os) k) gd) lv)
end Mine
end
section
open PySem PySem.W PyProof.Rows PySem.Calls
set_option maxRecDepth 100000
set_option maxHeartbeats 400000
set_option linter.unusedVariables false
namespace Mine
noncomputable abbrev L' (w : World) (n : Nat) (s : Shared) (t : Thread) (s' : Shared) (t' : Thread) : Prop := Lead treeTable PySem.Challenge.pw_ak0021_01 w 11 ann0 n s t s' t'
theorem body0_eq : body0 = txt.drop 0 := by kernel_rfl
theorem drop_cut (i n : Nat) : txt.drop i = sts i n ++ txt.drop (i + n) := by
  unfold sts
  rw [← List.drop_drop, List.take_append_drop]
theorem bodyB_cut (i n : Nat) : bodyB.drop i = (bodyB.drop i).take n ++ bodyB.drop (i + n) := by
  rw [← List.drop_drop, List.take_append_drop]
theorem txt_end : txt.drop 22 = [] := by kernel_rfl
theorem bodyB_end : bodyB.drop 13 = [] := by kernel_rfl
section
variable {w : World} {os : OsState}
theorem rest_lead {i n m : Nat} {s s' : Shared} {p p' : Pos} (h : segRun treeTable PySem.Challenge.pw_ak0021_01 w 11 ann0 1 m s (thSts i n p) = some (.next, s', cE, p')) : L' w m s (thRest i p) s' (thRest (i + n) p') := fun N r k => by
  unfold thRest at k ⊢
  rw [drop_cut i n]
  exact piece_app h k
theorem bstmts_lead {i n m : Nat} {s s' : Shared} {p p' : Pos} {k : Result → Sem Fin} (h : segRun treeTable PySem.Challenge.pw_ak0021_01 w 11 ann0 2 m s (thB i n p k) = some (.next, s', cB, p')) :
    L' w m s ⟨(execs (bodyB.drop i) envB).wrap doneF (leaveH envB) id id, cB, p, BB k⟩ s' ⟨(execs (bodyB.drop (i + n)) envB).wrap doneF (leaveH envB) id id, cB, p', BB k⟩ := fun N r q => by
  obtain ⟨a', ha, hN⟩ := seg_top (res := id) (K' := fun f => match f with | .next => (execs (bodyB.drop (i + n)) envB).wrap doneF (leaveH envB) id id | f => doneF f) (H' := leaveH envB) (gd := id) (lv := id) (B := BB k) rfl m s
    (thB i n p k) ⟨(execs ((bodyB.drop i).take n) envB).wrap (fun f => match f with | .next => (execs (bodyB.drop (i + n)) envB).wrap doneF (leaveH envB) id id | f => doneF f) (leaveH envB) id id, cB, p, BB k⟩ _ _ _ _ ⟨rfl, rfl, .inl ⟨rfl, rfl, _, rfl, rfl⟩⟩ h
  have ha : a' = .next := ha
  subst ha
  rw [bodyB_cut i n, execs_app_wrap]
  exact hN N r q
theorem top_run : topRun treeTable PySem.Challenge.pw_ak0021_01 w 11 ann0 (12 + (1 + (1010 + (245 + (64 + (1 + (2000 + (207 + (3963 + (12005 + (6799 + (9587 + (165 + (242 + (246 + (117 + 2)))))))))))))))) ⟨boot_heap w.params, Array.mk [], boot_drawn, boot_toks, os⟩ (topStub PySem.Challenge.pw_ak0021_01) = some ⟨HH w.params, #[], boot_drawn, 3390, os⟩ := by
  have e {α β : Type} {f g : α → β} (h : f = g) (a : α) : f a = g a := congrFun h a
  refine go_top (e (run_pre w) os) ?_
  refine piece_block (b := body0) (p' := q0) (segRun_of (e (run_block w) os)) ?_
  rw [body0_eq]
  refine rest_lead (i := 0) (n := 3) (segRun_of (e (run_C2 w) os)) _ _ ?_
  refine rest_lead (i := 3) (n := 3) (segRun_of (e (run_C5 w) os)) _ _ ?_
  refine Lead.of_seg (segGo_of (e (run_D w) os)) _ _ ?_
  refine body_lead (c := cB) (B := BB (k1 w os)) (b := 2) (n := 1) rfl rfl (segRun_of (e (e (run_start w) os) (k1 w os))) _ _ ?_
  rw [bodyB_eq]
  refine stmt_does (c := cB) (B := BB (k1 w os)) does_gv _ _ ?_
  refine bstmts_lead (i := 1) (n := 8) (segRun_of (e (e (run_E8 w) os) (k1 w os))) _ _ ?_
  rw [show bodyB.drop (1 + 8) = _ from body9]
  refine stmt_does (c := cB) (B := BB (k1 w os)) st9 _ _ ?_
  rw [body10]
  refine stmt_does (c := cB) (B := BB (k1 w os)) st10 _ _ ?_
  rw [body11]
  refine stmt_does (c := cB) (B := BB (k1 w os)) st11 _ _ ?_
  rw [body12]
  refine stmt_does (c := cB) (B := BB (k1 w os)) st12 _ _ ?_
  rw [bodyB_end]
  refine Lead.of_seg (segGo_of (e (run_F w) os)) _ _ ?_
  refine rest_lead (i := 7) (n := 6) (segRun_of (e (run_G12 w) os)) _ _ ?_
  refine rest_lead (i := 13) (n := 5) (segRun_of (e (run_G17 w) os)) _ _ ?_
  refine rest_lead (i := 18) (n := 4) (segRun_of (e (run_H w) os)) _ _ ?_
  unfold thRest
  rw [txt_end]
  exact e (run_fin w) os
end
end Mine
end
section
open PySem PySem.W PyProof.Rows PySem.Calls
set_option maxRecDepth 100000
set_option maxHeartbeats 400000
set_option linter.unusedVariables false
namespace Mine
/-- the view: the statements whose names the head tells of -/
noncomputable def vq : Program := { PySem.Challenge.pw_ak0021_01 with main := { PySem.Challenge.pw_ak0021_01.main with body := [st 0, st 2, st 4, st 6, st 7, st 9, st 10, st 11, st 12, st 13, st 14, st 15, st 16, st 17, st 18, st 19, st 20, st 21] } }
noncomputable def lq : List Str := [Str.ofString "ArmenianStemmer", Str.ofString "_law_cases", Str.ofString "_law_plurals", Str.ofString "_law_nouns", Str.ofString "_law_adjectives", Str.ofString "_law_verbs"]
noncomputable def rq : RowW := PySem.Challenge.rw_ak0021_01.row.toRowW
noncomputable def Xq (s : Shared) : Bool := xlAt vq [] s && recOk (RowW.records rq) s
/-- the tables' rows -/
noncomputable def tab0 : List AmRow := (r0_0 :: r0_1 :: r0_2 :: r0_3 :: r0_4 :: r0_5 :: r0_6 :: r0_7 :: r0_8 :: r0_9 :: r0_10 :: r0_11 :: r0_12 :: r0_13 :: r0_14 :: r0_15 :: r0_16 :: r0_17 :: r0_18 :: r0_19 :: r0_20 :: r0_21 :: r0_22 :: [])
noncomputable def tab1 : List AmRow := (r1_0 :: r1_1 :: r1_2 :: r1_3 :: r1_4 :: r1_5 :: r1_6 :: r1_7 :: r1_8 :: r1_9 :: r1_10 :: r1_11 :: r1_12 :: r1_13 :: r1_14 :: r1_15 :: r1_16 :: r1_17 :: r1_18 :: r1_19 :: r1_20 :: r1_21 :: r1_22 :: r1_23 :: r1_24 :: r1_25 :: r1_26 :: r1_27 :: r1_28 :: r1_29 :: r1_30 :: r1_31 :: r1_32 :: r1_33 :: r1_34 :: r1_35 :: r1_36 :: r1_37 :: r1_38 :: r1_39 :: r1_40 :: r1_41 :: r1_42 :: r1_43 :: r1_44 :: r1_45 :: r1_46 :: r1_47 :: r1_48 :: r1_49 :: r1_50 :: r1_51 :: r1_52 :: r1_53 :: r1_54 :: r1_55 :: r1_56 :: r1_57 :: r1_58 :: r1_59 :: r1_60 :: r1_61 :: r1_62 :: r1_63 :: r1_64 :: r1_65 :: r1_66 :: r1_67 :: r1_68 :: r1_69 :: r1_70 :: [])
noncomputable def tab2 : List AmRow := (r2_0 :: r2_1 :: r2_2 :: r2_3 :: r2_4 :: r2_5 :: r2_6 :: r2_7 :: r2_8 :: r2_9 :: r2_10 :: r2_11 :: r2_12 :: r2_13 :: r2_14 :: r2_15 :: r2_16 :: r2_17 :: r2_18 :: r2_19 :: r2_20 :: r2_21 :: r2_22 :: r2_23 :: r2_24 :: r2_25 :: r2_26 :: r2_27 :: r2_28 :: r2_29 :: r2_30 :: r2_31 :: r2_32 :: r2_33 :: r2_34 :: r2_35 :: r2_36 :: r2_37 :: r2_38 :: r2_39 :: [])
noncomputable def tab3 : List AmRow := (r3_0 :: r3_1 :: r3_2 :: r3_3 :: r3_4 :: r3_5 :: r3_6 :: r3_7 :: r3_8 :: r3_9 :: r3_10 :: r3_11 :: r3_12 :: r3_13 :: r3_14 :: r3_15 :: r3_16 :: r3_17 :: r3_18 :: r3_19 :: r3_20 :: r3_21 :: r3_22 :: r3_23 :: r3_24 :: r3_25 :: r3_26 :: r3_27 :: r3_28 :: r3_29 :: r3_30 :: r3_31 :: r3_32 :: r3_33 :: r3_34 :: r3_35 :: r3_36 :: r3_37 :: r3_38 :: r3_39 :: r3_40 :: r3_41 :: r3_42 :: r3_43 :: r3_44 :: r3_45 :: r3_46 :: r3_47 :: r3_48 :: r3_49 :: r3_50 :: r3_51 :: r3_52 :: r3_53 :: r3_54 :: r3_55 :: r3_56 :: [])
noncomputable def tabRows : List (List AmRow) := [tab0, tab1, tab2, tab3]
noncomputable def KB (P : Params) : Frag := tabRows.flatMap fun l => l.flatMap fun r => [(r.x, amD P r), (r.x + 1, amI r)]
noncomputable def Kall (P : Params) : Frag := KA P ++ KB P
noncomputable def asB : List Nat := tabRows.flatMap fun l => l.flatMap fun r => [r.x, r.x + 1]
noncomputable def asAll : List Nat := (2 :: 3 :: 34 :: 35 :: 41 :: 42 :: 48 :: 49 :: 69 :: 70 :: 97 :: 98 :: 139 :: 140 :: 146 :: 147 :: 153 :: 154 :: 160 :: 161 :: 188 :: 189 :: 193 :: 194 :: 196 :: 197 :: 198 :: 199 :: 217 :: 218 :: 219 :: 220 :: 230 :: 236 :: 237 :: 243 :: 244 :: 250 :: 251 :: 257 :: 258 :: 264 :: 265 :: 271 :: 272 :: 342 :: 556 :: 677 :: 849 :: 851 :: 852 :: 863 :: 864 :: 868 :: 869 :: 870 :: 871 :: 872 :: 878 :: 879 :: 885 :: 886 :: 892 :: 893 :: 897 :: 898 :: []) ++ asB
theorem asAll_eq (P : Params) : asAll = (Kall P).map (·.1) := by kernel_rfl
noncomputable def Hq : Hook := kHook Kall asAll asAll_eq
noncomputable def Yq (s : Shared) : List (Option Obj) := asAll.map s.heap.get?
noncomputable def Vq (w : World) : List (Option Obj) := (Kall w.params).map fun p => some p.2
noncomputable def Zq (P : Params) : List (Option Obj) := asAll.map fun a => ((TH P).get a).bind alive
end Mine
end
section
open PySem PySem.W PyProof.Rows PySem.Calls
set_option maxRecDepth 100000
set_option maxHeartbeats 400000
set_option linter.unusedVariables false
namespace Mine
theorem look_size : ∀ w : World, ((boot_heap w.params).isNs mainGlobals && (Array.mk [] : Array GenState).size == 0, (boot_heap w.params).objs.size, (boot_heap w.params).nsMap mainGlobals "__annotations__") = (true, 11, ann0) := by
  rw [PySem.W.Fast.te8920871248978507458]
  intro w
  kernel_rfl
theorem look1 : ∀ w : World, (fun os : OsState => (staticsOk (importedModules PySem.Challenge.pw_ak0021_01.main.body) (boot_heap w.params) (HH w.params) && namesBound PySem.Challenge.pw_ak0021_01 (HH w.params) && gensDone ⟨HH w.params, #[], boot_drawn, 3390, os⟩ && laidKept (boot_heap w.params) (HH w.params))) = fun os => true := by
  rw [PySem.W.Fast.te5923862056798008813]
  intro w
  kernel_rfl
theorem look2 : ∀ w : World, (fun os : OsState => openSeen vq lq (importedModules PySem.Challenge.pw_ak0021_01.main.body) Xq true ⟨HH w.params, #[], boot_drawn, 3390, os⟩) = fun os => openGood vq lq := by
  rw [PySem.W.Fast.te5923862056798008813, PySem.W.Fast.te4187177175401517315]
  intro w
  kernel_rfl
theorem HH_abs : ∀ w : World, HH w.params = absHeap (TH w.params) 899 {} := by
  intro w
  kernel_rfl
theorem Zq_is : ∀ w : World, Zq w.params = Vq w := by
  intro w
  kernel_rfl
theorem asAll_lt : asAll.all (fun a => Nat.blt a 899) = true := by decide +kernel
theorem map_abs {T : BT} {n : Nat} {life : Life} : ∀ (as : List Nat), as.all (fun a => Nat.blt a n) = true → (as.map fun a => (T.get a).isSome) = as.map (fun _ => true) → as.map (absHeap T n life).get? = as.map fun a => (T.get a).bind alive
  | [], _, _ => rfl
  | a :: r, h, h2 => by
    rw [List.all_cons, Bool.and_eq_true] at h
    rw [List.map_cons, List.map_cons, List.cons.injEq] at h2
    rw [List.map_cons, List.map_cons, map_abs r h.2 h2.2]
    congr 1
    obtain ⟨o, ho⟩ := Option.isSome_iff_exists.mp h2.1
    rw [abs_get (Nat.le_of_ble_eq_true h.1) ho, ho]
    rfl
theorem TH_some : ∀ P : Params, (asAll.map fun a => ((TH P).get a).isSome) = asAll.map (fun _ => true) := by intro P; kernel_rfl
theorem look3 (w : World) (os : OsState) : Yq ⟨HH w.params, #[], boot_drawn, 3390, os⟩ = Vq w := by
  unfold Yq
  show asAll.map (HH w.params).get? = _
  rw [HH_abs, map_abs asAll asAll_lt (TH_some _)]
  exact Zq_is w
theorem look_open (w : World) : (fencedOpening treeTable PySem.Challenge.pw_ak0021_01 w 70000).map (fun s => (s.heap, s.gens, s.drawn, s.toks)) = some (boot_heap w.params, Array.mk [], boot_drawn, boot_toks) :=
  boot_open (N := 70000) (by rfl) (by rfl) (fun s => by rfl) w
theorem left : LeftO PySem.Challenge.pw_ak0021_01 vq lq Xq Hq.obs Hq.val 70000 :=
  LeftO.of_pieces (ann := ann0) look_open look_size (fun w os => top_run) (by rfl) fun w => by
    funext os
    exact looks_pair (congrFun (look1 w) os) (looks_pair (congrFun (look2 w) os) (look3 w os))
end Mine
end
section
open PySem PySem.W PyProof.Rows PySem.Calls
set_option maxRecDepth 100000
set_option maxHeartbeats 400000
set_option linter.unusedVariables false
namespace Mine
noncomputable def dLaw : DefRec := ⟨Str.ofString "law", (fnT 21).1, (fnT 21).2.1, (fnT 21).2.2, ⟨264, 0, 275, 93⟩⟩
theorem law_said : PySem.Challenge.rw_ak0021_01.wellSaid = true := by kernel_rfl
theorem head (hc : WalkO vq lq (XL vq []) Hq.says rq dLaw [] fun f vs => PySem.call f vs) : PySem.Challenge.rw_ak0021_01.Holds := by
  w_on
  refine holds_law law_said fun said => ?_
  refine PySem.W.holds_open (q := vq) (loose := lq) (Xt := Xq) (XP := XL vq []) (Yf := Hq.obs) (Ya := Hq.val) (YP := Hq.says) (d := dLaw) (kwd := []) (N := 70000) left (Hook.of Hq) (Hook.keeps Hq) (fun s e => xl_of s (Bool.and_eq_true_iff.mp e).1) XL.keeps ?h1 ?h2 ?h3 (fun s e => recFacts_of (Bool.and_eq_true_iff.mp e).2) (by rfl) (by assumption) (by decide +kernel) ⟨rfl, rfl, rfl, rfl, rfl, by decide +kernel⟩ ?hw hc
  case h1 => kernel_rfl
  case h2 => kernel_rfl
  case h3 => kernel_rfl
  case hw => w_witness2
end Mine
end
section
open PySem PySem.W PyProof.Rows PySem.Calls
set_option maxRecDepth 100000
set_option maxHeartbeats 4000000
set_option linter.unusedVariables false
namespace Mine
noncomputable abbrev prog0 : Program := PySem.Challenge.rw_ak0021_01.row.toRowW.prog
/-- what the calls below lean on beside the written part: the set of vowels -/
structure VSet (w : World) (h : Heap) : Prop where
  vow : ∃ o, h.get? 230 = some o ∧ o.SetObjOf (strKind prog0 w) isV 8
theorem VSet.keeps {w : World} {h h' : Heap} (v : VSet w h) (k : ∀ b o, h.get? b = some o → h'.get? b = some o) : VSet w h' := let ⟨o, a, b⟩ := v.vow; ⟨o, k _ _ a, b⟩
theorem in_vowels {w : World} {A : Around} {E : Value → Shared → Prop} {s : Shared} {h₀ : Heap} {L : Addr} {m : Str → Option Value} {x : Str} {t : Tok} {Q : Value → Shared → Prop} (F : Fr h₀ L s.heap m) (V : VSet w h₀)
    (h : Q (.bool (isV x)) { s with toks := s.toks + 1 }) : wpAny (model prog0 w) A (compareOp .In (.str x t) (.ref 230)) Q E s := by
  obtain ⟨o, ho, hs⟩ := V.vow
  have hS := hs.setOf (F.keep _ _ ho) (by decide)
  exact wpAny_inSet_of (knd := strKind prog0 w) (strKind_is prog0 w x t) rfl hS h
theorem notin_vowels {w : World} {A : Around} {E : Value → Shared → Prop} {s : Shared} {h₀ : Heap} {L : Addr} {m : Str → Option Value} {x : Str} {t : Tok} {Q : Value → Shared → Prop} (F : Fr h₀ L s.heap m) (V : VSet w h₀)
    (h : Q (.bool (!isV x)) { s with toks := s.toks + 1 }) : wpAny (model prog0 w) A (compareOp .NotIn (.str x t) (.ref 230)) Q E s := by
  obtain ⟨o, ho, hs⟩ := V.vow
  have hS := hs.setOf (F.keep _ _ ho) (by decide)
  exact wpAny_notInSet_of (knd := strKind prog0 w) (strKind_is prog0 w x t) rfl hS h
noncomputable abbrev ent (P : Params) (k : String) (t : Tok) (v : Value) : DictEntry := ⟨PyData.keyHash P (Str.ofString k), .str (Str.ofString k) t, v⟩
noncomputable abbrev self6 (P : Params) (t1 t2 t3 t4 t5 t6 : Tok) (c cur lim lb bra ket : Value) : List DictEntry :=
  [ent P "current" t1 c, ent P "cursor" t2 cur, ent P "limit" t3 lim, ent P "limit_backward" t4 lb, ent P "bra" t5 bra, ent P "ket" t6 ket]
noncomputable abbrev self8 (P : Params) (t1 t2 t3 t4 t5 t6 t7 t8 : Tok) (c cur lim lb bra ket pv p2 : Value) : List DictEntry :=
  [ent P "current" t1 c, ent P "cursor" t2 cur, ent P "limit" t3 lim, ent P "limit_backward" t4 lb, ent P "bra" t5 bra, ent P "ket" t6 ket, ent P "I_pV" t7 pv, ent P "I_p2" t8 p2]

/-- the sign at a place, as a text -/
noncomputable def sgn (c : Str) (j : Int) : Str := ⟨#[c.cps.getD j.toNat 0]⟩
theorem str_at {w : World} {A : Around} {E : Value → Shared → Prop} {s : Shared} {value slice : Expr} {c : Str} {u t : Tok} {j : Int} {Q : Value → Shared → Prop} (h0 : 0 ≤ j) (hj : j < (c.length : Int)) (hl : (c.length : Int) ≤ 1000)
    (h : Q (.str (sgn c j) s.toks) { s with toks := s.toks + 1 })
    (hs : subscripted slice false (.str c u) (.int j t) = operate [.str c u, .int j t] (getItem (.str c u) (.int j t)) := by with_unfolding_all rfl) :
    wpAny (model prog0 w) A (subscriptTail value slice (.str c u) (.int j t)) Q E s := by
  have hb' : j.toNat < c.length := by omega
  have hb : j.toNat < c.cps.size := hb'
  refine tail_any (typeIs_str _ _ _) slot_str_getitem.lookup (P.getItem_str (c := c.cps.getD j.toNat 0) ?_ ?_ h) hs
  · rw [Bool.or_eq_false_iff]
    exact ⟨decide_eq_false (by omega), decide_eq_false (by omega)⟩
  · have e : seqIndex? j c.length = some j.toNat := by
      unfold seqIndex?
      have h1 : ¬ j < 0 := by omega
      simp only [h1, if_false]
      have : (decide (0 ≤ j) && decide (j < (c.length : Int))) = true := by rw [Bool.and_eq_true]; exact ⟨decide_eq_true h0, decide_eq_true hj⟩
      rw [this]; rfl
    rw [e, Option.bind_some]
    simp [Array.getD, hb]
theorem sgn_len (c : Str) (j : Int) : (sgn c j).length = 1 := rfl
end Mine
end
section
open PySem PySem.W PyProof.Rows PySem.Calls PyProof.V PySem.Spec
set_option maxRecDepth 100000
set_option maxHeartbeats 400000
set_option linter.unusedVariables false
namespace Mine
/-- a mark at which the walker stands still -/
structure Stop (P : Flow → Shared → Prop) (f : Flow) (s : Shared) : Prop where
  go : P f s
section
variable {prog : Program} {w : World} {A : Around} {E : Value → Shared → Prop} {Q : Flow → Shared → Prop} {s : Shared} {env : Env} {h₀ : Heap}
theorem wp_stop {t : Sem Flow} (h : wpAny (model prog w) A t (Stop Q) E s) : wpAny (model prog w) A t Q E s :=
  wpAny_mono h (fun _ _ p => p.go) fun _ _ x => x
theorem rangeD_q {σ : Type} {x : Str} {body : List Stmt} {r : Addr} {a₀ b₀ : Int} {t₀ u₀ v₀ : Tok} {n : Nat} {m₀ : Str → Option Value} (Led : σ → List (Addr × Obj)) (ps : σ → List (Str × Value)) (P : List Int → σ → Prop) (R : σ → Prop) (c₀ : σ)
    (hh : A.handled = none) (hr : IsRange s.heap r a₀ b₀ (-1) t₀ u₀ v₀) (hsmall : Builtin.Range.small a₀ b₀ (-1) = true) (hn : Builtin.Range.rangeSize a₀ b₀ (-1) = (n : Int)) (F : Fr h₀ env.locals s.heap m₀) (N : News h₀ env.locals s.heap (Led c₀)) (hk : ∀ p ∈ ps c₀, m₀ p.1 = some p.2) (hp : P [] c₀)
    (turn : (∀ (c : σ) (m' : Str → Option Value) h tk news', Fr h₀ env.locals h m' → News h₀ env.locals h news' → (∀ p ∈ Led c, p ∈ news') → (∀ p ∈ ps c, m' p.1 = some p.2) → (∀ z, z ≠ x → (∀ p ∈ ps c, z ≠ p.1) → ([] : List Str).contains z = false → m' z = m₀ z) → R c → Q .next { s with heap := h, toks := tk }) →
      ∀ (c : σ) (pre : List Int) (k : Int) t (u : Str → Option Value) h tk own, k = a₀ - (pre.length : Int) → pre.length < n → OwnOff own ((Led c₀).map (·.1)) → P pre c →
      Fr h₀ env.locals h (fun y => if y = x then some (.int k t) else kstB (fun z => if ([] : List Str).contains z then u z else m₀ z) (ps c) y) → News h₀ env.locals h (Led c ++ own) →
      wpAny (model prog w) A (execs body env) (Stop (InvPostN h₀ env.locals (KstS Led ps (fun _ => True) x [] m₀ P (pre ++ [k])) own ((Led c₀).map (·.1)) { s with heap := h, toks := tk } Q)) E { s with heap := h, toks := tk })
    (hdone : ∀ c, P (downKs a₀ n) c → R c)
    (hQ : ∀ (c : σ) (u : Str → Option Value) h tk, R c → Fr h₀ env.locals h (fun y => if y = x then u y else kstB (fun z => if ([] : List Str).contains z then u z else m₀ z) (ps c) y) → News h₀ env.locals h (Led c) → Q .next { s with heap := h, toks := tk }) :
    wpAny (model prog w) A (pyIter (.ref r)) (fun it s₂ => LoopAtV prog w A h₀ env x body Q E it s₂) E s :=
  kst_rangeD Led ps (fun _ => True) [] P c₀ hh hr hsmall hn F N trivial hk hp
    (fun c pre k t u h tk own e hl ho _ hp F N => wp_stop (turn (fun c m' h tk news' F N hn hk hr hR => hQ c m' h tk hR (kst_frOut hk hr F) (fun p hp => N p (hn p hp))) c pre k t u h tk own e hl ho hp F N))
    (fun c u h tk _ hp F N => hQ c u h tk (hdone c hp) F N)
theorem while_q {σ : Type} {test : Expr} {body : List Stmt} {pos : Pos} {m₀ : Str → Option Value} (Led : σ → List (Addr × Obj)) (ps : σ → List (Str × Value)) (stored : List Str) (P : σ → Prop) (R : σ → Prop) (μ : σ → Nat) (c₀ : σ)
    (F : Fr h₀ env.locals s.heap m₀) (N : News h₀ env.locals s.heap (Led c₀)) (hk : ∀ p ∈ ps c₀, m₀ p.1 = some p.2) (hp : P c₀)
    (turn : (∀ (c : σ) (m' : Str → Option Value) h tk news', Fr h₀ env.locals h m' → News h₀ env.locals h news' → (∀ p ∈ Led c, p ∈ news') → (∀ p ∈ ps c, m' p.1 = some p.2) → (∀ z, (∀ p ∈ ps c, z ≠ p.1) → stored.contains z = false → m' z = m₀ z) → R c → Q .next { s with heap := h, toks := tk }) →
      ∀ (c : σ) (u : Str → Option Value) h tk, P c → Fr h₀ env.locals h (kstB (fun z => if stored.contains z then u z else m₀ z) (ps c)) → News h₀ env.locals h (Led c) →
      wpAny (model prog w) A (isTrue test env (eval test env)) (fun b s₂ =>
        if b = true then wpAny (model prog w) A (execs body env) (Stop (KswPost h₀ env.locals s Led ps (fun _ => True) stored m₀ P μ Q c)) E s₂ else Stop Q .next s₂) E { s with heap := h, toks := tk })
    (hQ : ∀ (c : σ) (u : Str → Option Value) h tk, R c → Fr h₀ env.locals h (kstB (fun z => if stored.contains z then u z else m₀ z) (ps c)) → News h₀ env.locals h (Led c) → Q .next { s with heap := h, toks := tk })
    (hE : PassesOwn (model prog w) A env E := by passes_own) :
    wpAny (model prog w) A (exec (.While test body [] pos) env) Q E s :=
  ksw_while Led ps (fun _ => True) stored P μ c₀ F N trivial hk hp
    (fun c u h tk _ hp F N => wpAny_mono (turn (fun c m' h tk news' F N hn hk hr hR => hQ c m' h tk hR (ksw_fr hk hr F) (fun p hp => N p (hn p hp))) c u h tk hp F N) (fun b s₂ p => by
      cases b with
      | false => simpa using (show Stop Q .next s₂ by simpa using p).go
      | true =>
        simp only [if_true] at p ⊢
        exact wp_stop p) fun _ _ x => x) hE
end
end Mine
end
section
open PySem PySem.W PyProof.Rows PySem.Calls
set_option maxRecDepth 100000
set_option maxHeartbeats 4000000
set_option linter.unusedVariables false
namespace Mine
theorem room1 {a k K R : Nat} (h : a + K < R) (hk : Nat.ble (1 + k) K = true) : a + 1 + k < R := by
  have := Nat.le_of_ble_eq_true hk
  omega
theorem unit1 {a k K R : Nat} (h : a + K < R) (hk : Nat.ble (3 + k) K = true) : a + 3 + k < R := by
  have := Nat.le_of_ble_eq_true hk
  omega
/-- from cu on the first vowel stands at k -/
structure OutAt (c : Str) (cu li : Int) (k : Nat) : Prop where
  h0 : 0 ≤ cu
  h1 : cu ≤ k
  h2 : (k : Int) < li
  no : ∀ j : Nat, cu ≤ j → j < k → isV (sgn c j) = false
  yes : isV (sgn c k) = true
/-- from cu on the first sign that is no vowel stands at k -/
structure InAt (c : Str) (cu li : Int) (k : Nat) : Prop where
  h0 : 0 ≤ cu
  h1 : cu ≤ k
  h2 : (k : Int) < li
  no : ∀ j : Nat, cu ≤ j → j < k → isV (sgn c j) = true
  yes : isV (sgn c k) = false
local macro_rules | `(tactic| k_all) => `(tactic| assumption)
section
variable {w : World} {p : Program} {loose : List Str} {mean : ExcName → Option Value} {mg mb : Str → Option Value} {dp un : Nat} {gd : Option (List Code)} {cn : Str} {cs : Scope} {a : Addr} {ccd : Value} {cl : List (Str × Addr)} {outer : List Env} {A₀ : Around} {base h₀ : Heap} {L : Addr} {m : Str → Option Value} {s : Shared} {Q E : Value → Shared → Prop}
theorem go_out (x dx : Addr) (c : Str) (u : Tok) (cu li : Int) (lb bra ket pv p2 : Value) (tc tl : Tok) (t1 t2 t3 t4 t5 t6 t7 t8 : Tok) (rest : List (Addr × Obj))
    (k : Nat) (G : OutAt c cu li k) (hll : li ≤ c.length) (hlen : (c.length : Int) ≤ 1000)
    (hoff : ∀ p ∈ rest, p.1 ≠ dx) (hx : x ≠ dx)
    (B : Below A₀ base outer h₀) (F : Fr h₀ L s.heap m) (X : (KA w.params).In h₀) (V : VSet w h₀)
    (N : News h₀ L s.heap ((x, instObj 852 dx) :: (dx, dictOf (self8 w.params t1 t2 t3 t4 t5 t6 t7 t8 (.str c u) (.int cu tc) (.int li tl) lb bra ket pv p2) 8) :: rest))
    (T : Top p loose mean mg mb h₀) (hk : cs.kind = .function) (hd : dp + 20 < recursionLimit) (hu : un + 160 < cLine)
    (hret : ∀ h' tk' tc', Fr h₀ L h' m → News h₀ L h' ((x, instObj 852 dx) :: (dx, dictOf (self8 w.params t1 t2 t3 t4 t5 t6 t7 t8 (.str c u) (.int k tc') (.int li tl) lb bra ket pv p2) 8) :: rest) → Q (.bool true) { s with heap := h', toks := tk' }) :
    wpAny (model prog0 w) (ktrTop dp un gd cn cs L a ccd cl outer) (call (.ref 98) [.ref x, .ref 230]) Q E s := by
  obtain ⟨hc0, hck, hkl, hno, hyes⟩ := G
  have hfill : PySem.Challenge.rw_ak0021_01.name = PySem.Challenge.rw_ak0021_01.name ∧ KA = KA := by
    k_fill
    exact ⟨rfl, rfl⟩
  clear hfill
  w_on
  dsimp only [self8, ent] at N
  refine wpAny_call ?_
  k_dflt cell_enter
  rename_i g' L' h' FG' F' N' B' X' T'
  have V' := V.keeps FG'.keep
  generalize s.toks + _ = tk0
  (first | (k_here; (with_reducible show wpAny _ _ (subscriptTail _ _ (Value.str _ _) (Value.int _ _)) _ _ _); refine' str_at ?h0 ?h1 ?h2 ?_ ?h3; (case h0 => first | (with_reducible rfl) | (with_reducible assumption) | omega); (case h1 => first | (with_reducible rfl) | (with_reducible assumption) | omega); (case h2 => first | (with_reducible rfl) | (with_reducible assumption) | omega); (case h3 => with_unfolding_all rfl)) | (k_here; (with_reducible show wpAny _ _ (compareOp CmpOp.NotIn (Value.str _ _) (Value.ref _)) _ _ _); refine' notin_vowels ?F ?V ?_; (case F => k_asm); (case V => k_asm)) | (k_here; (with_reducible show wpAny _ _ (compareOp CmpOp.In (Value.str _ _) (Value.ref _)) _ _ _); refine' in_vowels ?F ?V ?_; (case F => k_asm); (case V => k_asm)) | walk1)
  refine' ksw_while (fun (z : Nat × Tok) => (x, instObj 852 dx) :: (dx, dictOf (self8 w.params t1 t2 t3 t4 t5 t6 t7 t8 (.str c u) (.int (z.1 : Int) z.2) (.int li tl) lb bra ket pv p2) 8) :: rest) (fun _ => []) (fun _ => True) [] (fun z => cu ≤ z.1 ∧ z.1 ≤ k) (fun z => k - z.1) (cu.toNat, tc) F' ?kn trivial (fun _ h => nomatch h) ?kp ?_
  case kn => dsimp only [self8, ent]; rw [Int.toNat_of_nonneg hc0]; exact N'
  case kp => dsimp only; omega
  clear F' N'
  rintro ⟨j, tj⟩ mu hh tk - ⟨hj1, hj2⟩ FF NN
  dsimp only [self8, ent] at NN hj1 hj2
  (try k_fold)
  repeat' (first | (k_unfold; (try dsimp only)) | (k_end; wrow_close) | (k_here; (with_reducible show wpAny _ _ (subscriptTail _ _ (Value.str _ _) (Value.int _ _)) _ _ _); refine' str_at ?h0 ?h1 ?h2 ?_ ?h3; (case h0 => first | (with_reducible rfl) | (with_reducible assumption) | omega); (case h1 => first | (with_reducible rfl) | (with_reducible assumption) | omega); (case h2 => first | (with_reducible rfl) | (with_reducible assumption) | omega); (case h3 => with_unfolding_all rfl)) | (k_here; (with_reducible show wpAny _ _ (compareOp CmpOp.NotIn (Value.str _ _) (Value.ref _)) _ _ _); refine' notin_vowels ?F ?V ?_; (case F => k_asm); (case V => k_asm)) | (k_here; (with_reducible show wpAny _ _ (compareOp CmpOp.In (Value.str _ _) (Value.ref _)) _ _ _); refine' in_vowels ?F ?V ?_; (case F => k_asm); (case V => k_asm)) | walk1 | (dsimp only; walk1) | (leave1; walk_say "STEP leave1"; try dsimp only) | fail "no step")
  all_goals first
    | (have hV : isV (sgn c (j : Int)) = true := (by assumption)
       have e : j = k := by
         rcases Nat.lt_or_ge j k with h | h
         · rw [hno j hj1 h] at hV; cases hV
         · omega
       subst e
       exact hret _ _ _ (by assumption) (by assumption))
    | (have hV : isV (sgn c (j : Int)) = false := (by assumption)
       have e : j ≠ k := fun e => by subst e; rw [hyes] at hV; cases hV
       refine ksw_end (j + 1, _) (by assumption) (by assumption) (fun _ h => h) trivial (fun _ h => nomatch h) (fun _ _ _ => rfl) ?_ ?_
       · dsimp only; omega
       · dsimp only; omega)
theorem go_in (x dx : Addr) (c : Str) (u : Tok) (cu li : Int) (lb bra ket pv p2 : Value) (tc tl : Tok) (t1 t2 t3 t4 t5 t6 t7 t8 : Tok) (rest : List (Addr × Obj))
    (k : Nat) (G : InAt c cu li k) (hll : li ≤ c.length) (hlen : (c.length : Int) ≤ 1000)
    (hoff : ∀ p ∈ rest, p.1 ≠ dx) (hx : x ≠ dx)
    (B : Below A₀ base outer h₀) (F : Fr h₀ L s.heap m) (X : (KA w.params).In h₀) (V : VSet w h₀)
    (N : News h₀ L s.heap ((x, instObj 852 dx) :: (dx, dictOf (self8 w.params t1 t2 t3 t4 t5 t6 t7 t8 (.str c u) (.int cu tc) (.int li tl) lb bra ket pv p2) 8) :: rest))
    (T : Top p loose mean mg mb h₀) (hk : cs.kind = .function) (hd : dp + 20 < recursionLimit) (hu : un + 160 < cLine)
    (hret : ∀ h' tk' tc', Fr h₀ L h' m → News h₀ L h' ((x, instObj 852 dx) :: (dx, dictOf (self8 w.params t1 t2 t3 t4 t5 t6 t7 t8 (.str c u) (.int k tc') (.int li tl) lb bra ket pv p2) 8) :: rest) → Q (.bool true) { s with heap := h', toks := tk' }) :
    wpAny (model prog0 w) (ktrTop dp un gd cn cs L a ccd cl outer) (call (.ref 70) [.ref x, .ref 230]) Q E s := by
  obtain ⟨hc0, hck, hkl, hno, hyes⟩ := G
  have hfill : PySem.Challenge.rw_ak0021_01.name = PySem.Challenge.rw_ak0021_01.name ∧ KA = KA := by
    k_fill
    exact ⟨rfl, rfl⟩
  clear hfill
  w_on
  dsimp only [self8, ent] at N
  refine wpAny_call ?_
  k_dflt cell_enter
  rename_i g' L' h' FG' F' N' B' X' T'
  have V' := V.keeps FG'.keep
  generalize s.toks + _ = tk0
  (first | (k_here; (with_reducible show wpAny _ _ (subscriptTail _ _ (Value.str _ _) (Value.int _ _)) _ _ _); refine' str_at ?h0 ?h1 ?h2 ?_ ?h3; (case h0 => first | (with_reducible rfl) | (with_reducible assumption) | omega); (case h1 => first | (with_reducible rfl) | (with_reducible assumption) | omega); (case h2 => first | (with_reducible rfl) | (with_reducible assumption) | omega); (case h3 => with_unfolding_all rfl)) | (k_here; (with_reducible show wpAny _ _ (compareOp CmpOp.NotIn (Value.str _ _) (Value.ref _)) _ _ _); refine' notin_vowels ?F ?V ?_; (case F => k_asm); (case V => k_asm)) | (k_here; (with_reducible show wpAny _ _ (compareOp CmpOp.In (Value.str _ _) (Value.ref _)) _ _ _); refine' in_vowels ?F ?V ?_; (case F => k_asm); (case V => k_asm)) | walk1)
  refine' ksw_while (fun (z : Nat × Tok) => (x, instObj 852 dx) :: (dx, dictOf (self8 w.params t1 t2 t3 t4 t5 t6 t7 t8 (.str c u) (.int (z.1 : Int) z.2) (.int li tl) lb bra ket pv p2) 8) :: rest) (fun _ => []) (fun _ => True) [] (fun z => cu ≤ z.1 ∧ z.1 ≤ k) (fun z => k - z.1) (cu.toNat, tc) F' ?kn trivial (fun _ h => nomatch h) ?kp ?_
  case kn => dsimp only [self8, ent]; rw [Int.toNat_of_nonneg hc0]; exact N'
  case kp => dsimp only; omega
  clear F' N'
  rintro ⟨j, tj⟩ mu hh tk - ⟨hj1, hj2⟩ FF NN
  dsimp only [self8, ent] at NN hj1 hj2
  (try k_fold)
  repeat' (first | (k_unfold; (try dsimp only)) | (k_end; wrow_close) | (k_here; (with_reducible show wpAny _ _ (subscriptTail _ _ (Value.str _ _) (Value.int _ _)) _ _ _); refine' str_at ?h0 ?h1 ?h2 ?_ ?h3; (case h0 => first | (with_reducible rfl) | (with_reducible assumption) | omega); (case h1 => first | (with_reducible rfl) | (with_reducible assumption) | omega); (case h2 => first | (with_reducible rfl) | (with_reducible assumption) | omega); (case h3 => with_unfolding_all rfl)) | (k_here; (with_reducible show wpAny _ _ (compareOp CmpOp.NotIn (Value.str _ _) (Value.ref _)) _ _ _); refine' notin_vowels ?F ?V ?_; (case F => k_asm); (case V => k_asm)) | (k_here; (with_reducible show wpAny _ _ (compareOp CmpOp.In (Value.str _ _) (Value.ref _)) _ _ _); refine' in_vowels ?F ?V ?_; (case F => k_asm); (case V => k_asm)) | walk1 | (dsimp only; walk1) | (leave1; walk_say "STEP leave1"; try dsimp only) | fail "no step")
  all_goals first
    | (have hV : isV (sgn c (j : Int)) = false := (by assumption)
       have e : j = k := by
         rcases Nat.lt_or_ge j k with h | h
         · rw [hno j hj1 h] at hV; cases hV
         · omega
       subst e
       exact hret _ _ _ (by assumption) (by assumption))
    | (have hV : isV (sgn c (j : Int)) = true := (by assumption)
       have e : j ≠ k := fun e => by subst e; rw [hyes] at hV; cases hV
       refine ksw_end (j + 1, _) (by assumption) (by assumption) (fun _ h => h) trivial (fun _ h => nomatch h) (fun _ _ _ => rfl) ?_ ?_
       · dsimp only; omega
       · dsimp only; omega)
end
end Mine
end
section
open PySem PySem.W PyProof.Rows PySem.Calls
set_option maxRecDepth 100000
set_option maxHeartbeats 4000000
set_option linter.unusedVariables false
namespace Mine
local macro_rules | `(tactic| k_all) => `(tactic| assumption)
section
variable {w : World} {p : Program} {loose : List Str} {mean : ExcName → Option Value} {mg mb : Str → Option Value} {dp un : Nat} {gd : Option (List Code)} {cn : Str} {cs : Scope} {a : Addr} {ccd : Value} {cl : List (Str × Addr)} {outer : List Env} {A₀ : Around} {base h₀ : Heap} {L : Addr} {m : Str → Option Value} {s : Shared} {Q E : Value → Shared → Prop}
theorem mark8 (x dx : Addr) (c : Str) (u : Tok) (cu li : Int) (lb bra ket pv p2 : Value) (tc tl : Tok) (t1 t2 t3 t4 t5 t6 t7 t8 : Tok) (rest : List (Addr × Obj))
    (k1 k2 k3 k4 : Nat) (G1 : OutAt c cu li k1) (G2 : InAt c (k1 + 1) li k2) (G3 : OutAt c (k2 + 1) li k3) (G4 : InAt c (k3 + 1) li k4) (hll : li ≤ c.length) (hlen : (c.length : Int) ≤ 1000)
    (hoff : ∀ p ∈ rest, p.1 ≠ dx) (hx : x ≠ dx)
    (B : Below A₀ base outer h₀) (F : Fr h₀ L s.heap m) (X : (KA w.params).In h₀) (V : VSet w h₀)
    (N : News h₀ L s.heap ((x, instObj 852 dx) :: (dx, dictOf (self8 w.params t1 t2 t3 t4 t5 t6 t7 t8 (.str c u) (.int cu tc) (.int li tl) lb bra ket pv p2) 8) :: rest))
    (T : Top p loose mean mg mb h₀) (hk : cs.kind = .function) (hd : dp + 40 < recursionLimit) (hu : un + 400 < cLine)
    (hret : ∀ h' tk' tc' u7 u8, Fr h₀ L h' m → News h₀ L h' ((x, instObj 852 dx) :: (dx, dictOf (self8 w.params t1 t2 t3 t4 t5 t6 t7 t8 (.str c u) (.int cu tc') (.int li tl) lb bra ket (.int (k1 + 1) u7) (.int (k4 + 1) u8)) 8) :: rest) → Q (.bool true) { s with heap := h', toks := tk' }) :
    wpAny (model prog0 w) (ktrTop dp un gd cn cs L a ccd cl outer) (call (.ref 237) [.ref x]) Q E s := by
  have hfill : PySem.Challenge.rw_ak0021_01.name = PySem.Challenge.rw_ak0021_01.name ∧ KA = KA := by
    k_fill
    exact ⟨rfl, rfl⟩
  clear hfill
  w_on
  dsimp only [self8, self6, ent] at N
  refine wpAny_call ?_
  k_dflt cell_enter
  rename_i g' L' h' FG' F' N' B' X' T'
  have V' := V.keeps FG'.keep
  generalize s.toks + _ = tk0
  repeat' (first | (k_unfold; (try dsimp only)) | (k_end; wrow_close) | (k_here; (with_reducible show wpAny _ _ (call (Value.ref 70) _ _) _ _ _); refine' go_in _ _ _ _ _ _ _ _ _ _ _ _ _ _ _ _ _ _ _ _ _ _ _ ?kG ?k1 ?k2 ?koff ?kx ?kB ?kF ?kX ?kV ?kN ?kT ?kk ?kd ?ku ?_; (case kF => k_asm); (case kN => k_asm); (case kB => k_asm); (case kX => k_asm); (case kV => k_asm); (case kT => k_asm); (case koff => assumption); (case kx => assumption); (case kk => first | exact rfl | assumption); (case kG => assumption); (case k1 => assumption); (case k2 => assumption); (case kd => first | exact room1 (by with_reducible assumption) rfl | ktr_room); (case ku => first | exact unit1 (by with_reducible assumption) rfl | ktr_units); intro h9 tk9 tc9 F9 N9; dsimp only [self8, self6, ent] at N9; (try k_sweep)) | (k_here; (with_reducible show wpAny _ _ (call (Value.ref 98) _ _) _ _ _); refine' go_out _ _ _ _ _ _ _ _ _ _ _ _ _ _ _ _ _ _ _ _ _ _ _ ?kG ?k1 ?k2 ?koff ?kx ?kB ?kF ?kX ?kV ?kN ?kT ?kk ?kd ?ku ?_; (case kF => k_asm); (case kN => k_asm); (case kB => k_asm); (case kX => k_asm); (case kV => k_asm); (case kT => k_asm); (case koff => assumption); (case kx => assumption); (case kk => first | exact rfl | assumption); (case kG => assumption); (case k1 => assumption); (case k2 => assumption); (case kd => first | exact room1 (by with_reducible assumption) rfl | ktr_room); (case ku => first | exact unit1 (by with_reducible assumption) rfl | ktr_units); intro h9 tk9 tc9 F9 N9; dsimp only [self8, self6, ent] at N9; (try k_sweep)) | walk1 | (dsimp only; walk1) | (leave1; walk_say "STEP leave1"; try dsimp only) | fail "no step")
  all_goals exact hret _ _ _ _ _ (by assumption) (by assumption)
theorem mark6 (x dx : Addr) (c : Str) (u : Tok) (cu li : Int) (lb bra ket : Value) (tc tl : Tok) (t1 t2 t3 t4 t5 t6 : Tok) (rest : List (Addr × Obj))
    (k1 k2 k3 k4 : Nat) (G1 : OutAt c cu li k1) (G2 : InAt c (k1 + 1) li k2) (G3 : OutAt c (k2 + 1) li k3) (G4 : InAt c (k3 + 1) li k4) (hll : li ≤ c.length) (hlen : (c.length : Int) ≤ 1000)
    (hoff : ∀ p ∈ rest, p.1 ≠ dx) (hx : x ≠ dx)
    (B : Below A₀ base outer h₀) (F : Fr h₀ L s.heap m) (X : (KA w.params).In h₀) (V : VSet w h₀)
    (N : News h₀ L s.heap ((x, instObj 852 dx) :: (dx, dictOf (self6 w.params t1 t2 t3 t4 t5 t6 (.str c u) (.int cu tc) (.int li tl) lb bra ket) 6) :: rest))
    (T : Top p loose mean mg mb h₀) (hk : cs.kind = .function) (hd : dp + 40 < recursionLimit) (hu : un + 400 < cLine)
    (hret : ∀ h' tk' tc' u7 u8 u9 u10, Fr h₀ L h' m → News h₀ L h' ((x, instObj 852 dx) :: (dx, dictOf (self8 w.params t1 t2 t3 t4 t5 t6 u9 u10 (.str c u) (.int cu tc') (.int li tl) lb bra ket (.int (k1 + 1) u7) (.int (k4 + 1) u8)) 8) :: rest) → Q (.bool true) { s with heap := h', toks := tk' }) :
    wpAny (model prog0 w) (ktrTop dp un gd cn cs L a ccd cl outer) (call (.ref 237) [.ref x]) Q E s := by
  have hfill : PySem.Challenge.rw_ak0021_01.name = PySem.Challenge.rw_ak0021_01.name ∧ KA = KA := by
    k_fill
    exact ⟨rfl, rfl⟩
  clear hfill
  w_on
  dsimp only [self8, self6, ent] at N
  refine wpAny_call ?_
  k_dflt cell_enter
  rename_i g' L' h' FG' F' N' B' X' T'
  have V' := V.keeps FG'.keep
  generalize s.toks + _ = tk0
  repeat' (first | (k_unfold; (try dsimp only)) | (k_end; wrow_close) | (k_here; (with_reducible show wpAny _ _ (call (Value.ref 70) _ _) _ _ _); refine' go_in _ _ _ _ _ _ _ _ _ _ _ _ _ _ _ _ _ _ _ _ _ _ _ ?kG ?k1 ?k2 ?koff ?kx ?kB ?kF ?kX ?kV ?kN ?kT ?kk ?kd ?ku ?_; (case kF => k_asm); (case kN => k_asm); (case kB => k_asm); (case kX => k_asm); (case kV => k_asm); (case kT => k_asm); (case koff => assumption); (case kx => assumption); (case kk => first | exact rfl | assumption); (case kG => assumption); (case k1 => assumption); (case k2 => assumption); (case kd => first | exact room1 (by with_reducible assumption) rfl | ktr_room); (case ku => first | exact unit1 (by with_reducible assumption) rfl | ktr_units); intro h9 tk9 tc9 F9 N9; dsimp only [self8, self6, ent] at N9; (try k_sweep)) | (k_here; (with_reducible show wpAny _ _ (call (Value.ref 98) _ _) _ _ _); refine' go_out _ _ _ _ _ _ _ _ _ _ _ _ _ _ _ _ _ _ _ _ _ _ _ ?kG ?k1 ?k2 ?koff ?kx ?kB ?kF ?kX ?kV ?kN ?kT ?kk ?kd ?ku ?_; (case kF => k_asm); (case kN => k_asm); (case kB => k_asm); (case kX => k_asm); (case kV => k_asm); (case kT => k_asm); (case koff => assumption); (case kx => assumption); (case kk => first | exact rfl | assumption); (case kG => assumption); (case k1 => assumption); (case k2 => assumption); (case kd => first | exact room1 (by with_reducible assumption) rfl | ktr_room); (case ku => first | exact unit1 (by with_reducible assumption) rfl | ktr_units); intro h9 tk9 tc9 F9 N9; dsimp only [self8, self6, ent] at N9; (try k_sweep)) | walk1 | (dsimp only; walk1) | (leave1; walk_say "STEP leave1"; try dsimp only) | fail "no step")
  all_goals exact hret _ _ _ _ _ _ _ (by assumption) (by assumption)
end
end Mine
end
section
open PySem PySem.W PyProof.Rows PySem.Calls
set_option maxRecDepth 100000
set_option maxHeartbeats 4000000
set_option linter.unusedVariables false
namespace Mine
/-- the rows of a table stand in the heap -/
structure AmTab (P : Params) (h : Heap) (b : Nat) (rows : List AmRow) : Prop where
  row : ∀ k r, rows[k]? = some r → h.get? (b + 3 * k + 1) = some (amI r) ∧ h.get? r.x = some (amD P r)
theorem AmTab.keeps {P : Params} {h h' : Heap} {b : Nat} {rows : List AmRow} (T : AmTab P h b rows) (k : ∀ b o, h.get? b = some o → h'.get? b = some o) : AmTab P h' b rows := ⟨fun i r e => ⟨k _ _ (T.row i r e).1, k _ _ (T.row i r e).2⟩⟩
theorem AmTab.inst {P : Params} {h₀ h : Heap} {L : Addr} {m : Str → Option Value} {b k : Nat} {rows : List AmRow} {r : AmRow} (F : Fr h₀ L h m) (T : AmTab P h₀ b rows) (hr : rows[k]? = some r) :
    InstAt h (b + 3 * k + 1) (amI r) 218 (some (dictOf [⟨PyData.keyHash P (Str.ofString "s"), .str (Str.ofString "s") (r.u + 8 + r.e), .str r.s r.u⟩, ⟨PyData.keyHash P (Str.ofString "substring_i"), .str (Str.ofString "substring_i") (r.u + 10 + r.e), .int r.i (r.u + 1 + r.e)⟩, ⟨PyData.keyHash P (Str.ofString "result"), .str (Str.ofString "result") (r.u + 12 + r.e), .int 1 (r.u + 2 + r.e)⟩] 3)) :=
  ⟨F.keep _ _ (T.row k r hr).1, rfl, rfl, F.keep _ _ (T.row k r hr).2⟩
theorem tabRefs_len (b n : Nat) : (tabRefs b n).length = n := by simp [tabRefs]
theorem tab_at {w : World} {A : Around} {E : Value → Shared → Prop} {s : Shared} {h₀ : Heap} {L la : Addr} {m : Str → Option Value} {value slice : Expr} {b : Nat} {rows : List AmRow} {k : Int} {u : Tok} {K : Nat} {r : AmRow} {Q : Value → Shared → Prop} (F : Fr h₀ L s.heap m) (hl : h₀.IsList la (tabRefs b rows.length).toArray)
    (hr : rows[K]? = some r) (hk : k = (K : Int)) (hbig : rows.length ≤ 1000) (h : Q (.ref (b + 3 * K + 1)) s)
    (hs : subscripted slice false (.ref la) (.int k u) = operate [.ref la, .int k u] (getItem (.ref la) (.int k u)) := by with_unfolding_all rfl) (hg : ∀ r, letTemporaryGo value (.ref la) r = pure () := by intro _; with_unfolding_all rfl) :
    wpAny (model prog0 w) A (subscriptTail value slice (.ref la) (.int k u)) Q E s := by
  have hK : K < rows.length := (List.getElem?_eq_some_iff.mp hr).1
  subst hk
  refine item_listL (F.lst hl) (Int.natCast_nonneg _) (by omega) ?_ h hs hg
  rw [Int.toNat_natCast]
  simp [tabRefs, hK]
theorem mid_is (i j : Nat) (h : i ≤ j) : (i : Int) + ((j : Int) - i).fdiv (2 ^ Int.toNat 1) = ((i + (j - i) / 2 : Nat) : Int) := by
  rw [Int.fdiv_eq_ediv_of_nonneg _ (by decide)]
  show (i : Int) + ((j : Int) - i) / 2 = _
  omega
theorem dummy0 : True := trivial
noncomputable def ordAt (c : Str) (j : Int) : Int := ((c.cps.getD j.toNat 0 : Nat) : Int)
noncomputable def inn (s c : Str) (cu lb : Int) : Nat → Nat → Int × Nat
  | 0, cm => (0, cm)
  | f + 1, cm => if cu - cm = lb then (-1, cm) else if ordAt c (cu - 1 - cm) - ordAt s ((s.length : Int) - 1 - cm) ≠ 0 then (ordAt c (cu - 1 - cm) - ordAt s ((s.length : Int) - 1 - cm), cm) else inn s c cu lb f (cm + 1)
theorem inn_lb {s c : Str} {cu lb : Int} {cm : Nat} (h : cm < s.length) (e : cu - cm = lb) : inn s c cu lb (s.length - cm) cm = (-1, cm) := by
  obtain ⟨f, hf⟩ : ∃ f, s.length - cm = f + 1 := Nat.exists_eq_succ_of_ne_zero (Nat.sub_ne_zero_of_lt h)
  rw [hf, inn, if_pos e]
theorem inn_ne {s c : Str} {cu lb k : Int} {cm : Nat} (h : cm < s.length) (e : cu - cm ≠ lb) (hk : k = (s.length : Int) - 1 - cm) (d : ((c.cps.getD (cu - 1 - cm).toNat 0 : Nat) : Int) - ((s.cps.getD k.toNat 0 : Nat) : Int) ≠ 0) :
    inn s c cu lb (s.length - cm) cm = (((c.cps.getD (cu - 1 - cm).toNat 0 : Nat) : Int) - ((s.cps.getD k.toNat 0 : Nat) : Int), cm) := by
  obtain ⟨f, hf⟩ : ∃ f, s.length - cm = f + 1 := Nat.exists_eq_succ_of_ne_zero (Nat.sub_ne_zero_of_lt h)
  subst hk
  rw [hf, inn, if_neg e]
  exact if_pos d
theorem inn_eq {s c : Str} {cu lb k : Int} {cm : Nat} (h : cm < s.length) (e : cu - cm ≠ lb) (hk : k = (s.length : Int) - 1 - cm) (d : ((c.cps.getD (cu - 1 - cm).toNat 0 : Nat) : Int) - ((s.cps.getD k.toNat 0 : Nat) : Int) = 0) :
    inn s c cu lb (s.length - cm) cm = inn s c cu lb (s.length - (cm + 1)) (cm + 1) := by
  obtain ⟨f, hf⟩ : ∃ f, s.length - cm = f + 1 := Nat.exists_eq_succ_of_ne_zero (Nat.sub_ne_zero_of_lt h)
  have hf' : s.length - (cm + 1) = f := by rw [Nat.sub_add_eq, hf]; rfl
  subst hk
  rw [hf, hf', inn, if_neg e]
  exact if_neg (not_not_intro d)
noncomputable def cmpT (rows : List AmRow) (c : Str) (cu lb : Int) (k cm : Nat) : Option (Bool × Nat) :=
  match rows[k]? with
  | none => none
  | some r => some (decide ((inn r.s c cu lb (r.s.length - cm) cm).1 < 0), (inn r.s c cu lb (r.s.length - cm) cm).2)
noncomputable def bs (cmp : Nat → Nat → Option (Bool × Nat)) : Nat → Nat → Nat → Nat → Nat → Bool → Option (Nat × Nat)
  | 0, _, _, _, _, _ => none
  | f + 1, i, j, ci, cj, fk =>
    match cmp (i + (j - i) / 2) (min ci cj) with
    | none => none
    | some (true, cm) => if i + (j - i) / 2 - i ≤ 1 then (if 0 < i then some (i, ci) else if i + (j - i) / 2 = i then some (i, ci) else if fk then some (i, ci) else bs cmp f i (i + (j - i) / 2) ci cm true) else bs cmp f i (i + (j - i) / 2) ci cm fk
    | some (false, cm) => if j - (i + (j - i) / 2) ≤ 1 then (if 0 < i + (j - i) / 2 then some (i + (j - i) / 2, cm) else if j = i + (j - i) / 2 then some (i + (j - i) / 2, cm) else if fk then some (i + (j - i) / 2, cm) else bs cmp f (i + (j - i) / 2) j cm cj true) else bs cmp f (i + (j - i) / 2) j cm cj fk
theorem bs_step {rows : List AmRow} {c : Str} {cu lb : Int} {f i j ci cj K cm : Nat} {fk : Bool} {d : Int} {r : AmRow} {R : Nat × Nat} (hr : rows[K]? = some r) (hKd : i + (j - i) / 2 = K) (hR : (d, cm) = inn r.s c cu lb (r.s.length - min ci cj) (min ci cj))
    (h : bs (cmpT rows c cu lb) f i j ci cj fk = some R) : ∃ f', f = f' + 1 ∧ (if d < 0 then (if K - i ≤ 1 then (if 0 < i then some (i, ci) else if K = i then some (i, ci) else if fk = true then some (i, ci) else bs (cmpT rows c cu lb) f' i K ci cm true) else bs (cmpT rows c cu lb) f' i K ci cm fk)
      else (if j - K ≤ 1 then (if 0 < K then some (K, cm) else if j = K then some (K, cm) else if fk = true then some (K, cm) else bs (cmpT rows c cu lb) f' K j cm cj true) else bs (cmpT rows c cu lb) f' K j cm cj fk)) = some R := by
  cases f with
  | zero => exact nomatch h
  | succ f =>
    refine ⟨f, rfl, ?_⟩
    rw [bs, hKd] at h
    have e : cmpT rows c cu lb K (min ci cj) = some (decide (d < 0), cm) := by
      unfold cmpT
      rw [hr]
      dsimp only
      rw [← hR]
    rw [e] at h
    by_cases hd : d < 0
    · rw [if_pos hd]
      rw [decide_eq_true hd] at h
      exact h
    · rw [if_neg hd]
      rw [decide_eq_false hd] at h
      exact h
theorem bs_pos {rows : List AmRow} {c : Str} {cu lb : Int} {f i j ci cj : Nat} {fk : Bool} {R : Nat × Nat} (h : bs (cmpT rows c cu lb) f i j ci cj fk = some R) : f = (f - 1) + 1 := by
  cases f with
  | zero => exact nomatch h
  | succ f => rfl
theorem bs_stepB {rows : List AmRow} {c : Str} {cu lb : Int} {f i j ci cj K cm : Nat} {fk : Bool} {d : Int} {r : AmRow} {R : Nat × Nat} (hr : rows[K]? = some r) (hKd : i + (j - i) / 2 = K) (hR : (d, cm) = inn r.s c cu lb (r.s.length - min ci cj) (min ci cj)) (h1 : i ≤ K) (h2 : K ≤ j)
    (h : bs (cmpT rows c cu lb) f i j ci cj fk = some R) : (if d < 0 then (if (K : Int) - (i : Int) ≤ 1 then (if (0 : Int) < (i : Int) then some (i, ci) else if (K : Int) = (i : Int) then some (i, ci) else if fk = true then some (i, ci) else bs (cmpT rows c cu lb) (f - 1) i K ci cm true) else bs (cmpT rows c cu lb) (f - 1) i K ci cm fk)
      else (if (j : Int) - (K : Int) ≤ 1 then (if (0 : Int) < (K : Int) then some (K, cm) else if (j : Int) = (K : Int) then some (K, cm) else if fk = true then some (K, cm) else bs (cmpT rows c cu lb) (f - 1) K j cm cj true) else bs (cmpT rows c cu lb) (f - 1) K j cm cj fk)) = some R := by
  obtain ⟨f', rfl, h'⟩ := bs_step hr hKd hR h
  clear h hR hr hKd
  have e1 : (K : Int) - (i : Int) ≤ 1 ↔ K - i ≤ 1 := ⟨fun _ => by omega, fun _ => by omega⟩
  have e2 : (j : Int) - (K : Int) ≤ 1 ↔ j - K ≤ 1 := ⟨fun _ => by omega, fun _ => by omega⟩
  simp only [e1, e2, Int.natCast_pos, Int.natCast_inj]
  exact h'
theorem ite_p {α : Type} {c : Prop} [Decidable c] {a b r : α} (h : (if c then a else b) = r) (hc : c) : a = r := (if_pos hc).symm.trans h
theorem ite_n {α : Type} {c : Prop} [Decidable c] {a b r : α} (h : (if c then a else b) = r) (hc : ¬ c) : b = r := (if_neg hc).symm.trans h
theorem ite_nb {α : Type} {k : Bool} {a b r : α} (h : (if k = true then a else b) = r) (hc : k = false) : b = r := ite_n h (by rw [hc]; exact Bool.false_ne_true)
theorem mid_le {i j K : Nat} (h : i + (j - i) / 2 = K) (hij : i ≤ j) : i ≤ K ∧ K ≤ j := ⟨by omega, by omega⟩
theorem pred_lt' {f : Nat} (h : f = (f - 1) + 1) : f - 1 < f := Nat.lt_of_lt_of_eq (Nat.lt_succ_self _) h.symm
/-- the chain of links: the length of what comes off -/
noncomputable def chain (rows : List AmRow) (ci : Nat) : Nat → Nat → Option (Option Nat)
  | 0, _ => none
  | f + 1, i => match rows[i]? with
    | none => none
    | some r => if r.s.length ≤ ci then some (some r.s.length) else if r.i < 0 then some none else chain rows ci f r.i.toNat
theorem chain_step {rows : List AmRow} {ci f i : Nat} {res : Option Nat} (h : chain rows ci f i = some res) : ∃ r, rows[i]? = some r ∧ ∃ f', f = f' + 1 ∧ (if r.s.length ≤ ci then some (some r.s.length) else if r.i < 0 then some none else chain rows ci f' r.i.toNat) = some res := by
  cases f with
  | zero => exact nomatch h
  | succ f =>
    rw [chain] at h
    cases e : rows[i]? with
    | none => rw [e] at h; exact nomatch h
    | some r => rw [e] at h; exact ⟨r, rfl, f, rfl, h⟩

local macro_rules | `(tactic| k_all) => `(tactic| assumption)
local macro_rules | `(tactic| k_inst) => `(tactic| (refine' AmTab.inst ?f ?t ?r; (case f => k_asm); (case t => assumption); (case r => assumption)))
section
variable {w : World} {p : Program} {loose : List Str} {mean : ExcName → Option Value} {mg mb : Str → Option Value} {dp un : Nat} {gd : Option (List Code)} {cn : Str} {cs : Scope} {a : Addr} {ccd : Value} {cl : List (Str × Addr)} {outer : List Env} {A₀ : Around} {base h₀ : Heap} {L : Addr} {m : Str → Option Value} {s : Shared} {Q E : Value → Shared → Prop}
theorem find_b (x dx : Addr) (c : Str) (u : Tok) (cu li lb : Int) (bra ket pv p2 : Value) (tc tl tb : Tok) (t1 t2 t3 t4 t5 t6 t7 t8 : Tok) (rest : List (Addr × Obj))
    (la b : Nat) (rows : List AmRow) (fu ri rc : Nat) (hb : bs (cmpT rows c cu lb) fu 0 rows.length 0 0 false = some (ri, rc)) (fu2 : Nat) (res : Option Nat) (hch : chain rows rc fu2 ri = some res)
    (hla : h₀.IsList la (tabRefs b rows.length).toArray) (TB : AmTab w.params h₀ b rows) (hrows : rows.length ≤ 1000) (hrow0 : 0 < rows.length) (hshort : ∀ (k : Nat) (r : AmRow), rows[k]? = some r → r.s.length ≤ 100)
    (hcl : cu ≤ c.length) (hcu : lb ≤ cu) (hlb : 0 ≤ lb) (hlen : (c.length : Int) ≤ 1000)
    (hoff : ∀ p ∈ rest, p.1 ≠ dx) (hx : x ≠ dx)
    (B : Below A₀ base outer h₀) (F : Fr h₀ L s.heap m) (X : (KA w.params).In h₀) (V : VSet w h₀)
    (N : News h₀ L s.heap ((x, instObj 852 dx) :: (dx, dictOf (self8 w.params t1 t2 t3 t4 t5 t6 t7 t8 (.str c u) (.int cu tc) (.int li tl) (.int lb tb) bra ket pv p2) 8) :: rest))
    (T : Top p loose mean mg mb h₀) (hk : cs.kind = .function) (hd : dp + 20 < recursionLimit) (hu : un + 160 < cLine)
    (hret1 : ∀ n, res = some n → ∀ h' tk' tc' t', Fr h₀ L h' m → News h₀ L h' ((x, instObj 852 dx) :: (dx, dictOf (self8 w.params t1 t2 t3 t4 t5 t6 t7 t8 (.str c u) (.int (cu - (n : Nat)) tc') (.int li tl) (.int lb tb) bra ket pv p2) 8) :: rest) → Q (.int 1 t') { s with heap := h', toks := tk' })
    (hret0 : res = none → ∀ h' tk' t', Fr h₀ L h' m → News h₀ L h' ((x, instObj 852 dx) :: (dx, dictOf (self8 w.params t1 t2 t3 t4 t5 t6 t7 t8 (.str c u) (.int cu tc) (.int li tl) (.int lb tb) bra ket pv p2) 8) :: rest) → Q (.int 0 t') { s with heap := h', toks := tk' }) :
    wpAny (model prog0 w) (ktrTop dp un gd cn cs L a ccd cl outer) (call (.ref 140) [.ref x, .ref la]) Q E s := by
  have hfill : PySem.Challenge.rw_ak0021_01.name = PySem.Challenge.rw_ak0021_01.name ∧ KA = KA := by
    k_fill
    exact ⟨rfl, rfl⟩
  clear hfill
  w_on
  dsimp only [self8, ent] at N
  refine wpAny_call ?_
  k_dflt cell_enter
  rename_i g' L' h' FG' F' N' B' X' T'
  have V' := V.keeps FG'.keep
  generalize s.toks + _ = tk0
  have hla' := FG'.lst hla
  have TB' := TB.keeps FG'.keep
  clear hla TB
  iterate 40 (first | (k_here; (with_reducible show wpAny _ _ (subscriptTail _ _ (Value.str _ _) (Value.int _ _)) _ _ _); refine' str_at ?h0 ?h1 ?h2 ?_ ?h3; (case h0 => first | (with_reducible rfl) | (with_reducible assumption) | omega); (case h1 => first | (with_reducible rfl) | (with_reducible assumption) | omega); (case h2 => first | (with_reducible rfl) | (with_reducible assumption) | omega); (case h3 => with_unfolding_all rfl)) | (k_here; (with_reducible show wpAny _ _ (subscriptTail _ _ (Value.ref _) (Value.int _ _)) _ _ _); refine' tab_at ?f ?l ?r ?k ?z ?_; (case f => k_asm); (case l => assumption); (case r => assumption); (case k => first | assumption | omega); (case z => assumption)) | (k_here; (with_reducible show wpAny _ _ (call (Value.builtin "len") [Value.ref _]) _ _ _); refine' len_list (Fr.lst ?f ?l) ?z ?_; (case f => k_asm); (case l => assumption); (case z => (simp only [List.size_toArray, tabRefs_len]; omega)); (simp only [List.size_toArray, tabRefs_len])) | walk1)
  refine' while_q (fun (z : (Nat × Nat × Nat × Nat × Nat × Bool × Tok × Tok × Tok × Tok)) => ((x, instObj 852 dx) :: (dx, dictOf (self8 w.params t1 t2 t3 t4 t5 t6 t7 t8 (.str c u) (.int cu tc) (.int li tl) (.int lb tb) bra ket pv p2) 8) :: rest)) (fun z => [(Str.ofString "i", .int (z.2.1 : Int) z.2.2.2.2.2.2.1), (Str.ofString "j", .int (z.2.2.1 : Int) z.2.2.2.2.2.2.2.1), (Str.ofString "common_i", .int (z.2.2.2.1 : Int) z.2.2.2.2.2.2.2.2.1), (Str.ofString "common_j", .int (z.2.2.2.2.1 : Int) z.2.2.2.2.2.2.2.2.2), (Str.ofString "first_key_inspected", .bool z.2.2.2.2.2.1)]) ["k", "diff", "common", "w", "i2"] (fun z => bs (cmpT rows c cu lb) z.1 z.2.1 z.2.2.1 z.2.2.2.1 z.2.2.2.2.1 z.2.2.2.2.2.1 = some (ri, rc) ∧ z.2.1 < rows.length ∧ z.2.1 ≤ z.2.2.1 ∧ z.2.2.1 ≤ rows.length ∧ (z.2.2.2.1 : Int) ≤ cu - lb ∧ (z.2.2.2.2.1 : Int) ≤ cu - lb) (fun z => z.2.1 = ri ∧ z.2.2.2.1 = rc) (fun z => z.1) (fu, 0, rows.length, 0, 0, false, _, _, _, _) (by assumption) ?kn ?kk ?kp ?_ ?_
  case kn => dsimp only [self8, ent]; assumption
  case kk => kst_all
  case kp => exact ⟨hb, hrow0, Nat.zero_le _, Nat.le_refl _, by dsimp only; omega, by dsimp only; omega⟩
  · intro HQ
    rename Fr g' _ _ _ => FZ
    clear FZ
    rintro ⟨f, i, j, ci, cj, fk, ti, tj, tci, tcj⟩ uu hh tk ⟨hbs, hi, hij, hj, hci, hcj⟩ FF NN
    dsimp only [self8, ent] at NN hbs hi hij hj hci hcj FF
    (try k_fold)
    have hK := mid_is i j hij
    have hmin : (min ci cj : Nat) ≤ cu - lb := by omega
    obtain ⟨K, hKd⟩ : ∃ K, i + (j - i) / 2 = K := ⟨_, rfl⟩
    rw [hKd] at hK
    have hKn : K < rows.length := by omega
    obtain ⟨r, hr⟩ : ∃ r, rows[K]? = some r := ⟨_, List.getElem?_eq_getElem hKn⟩
    have hrs := hshort K r hr
    have hm : (if (cj : Int) < (ci : Int) then (cj : Int) else (ci : Int)) = ((min ci cj : Nat) : Int) := by split <;> omega
    iterate 16 (first | (k_here; (with_reducible show wpAny _ _ (subscriptTail _ _ (Value.str _ _) (Value.int _ _)) _ _ _); refine' str_at ?h0 ?h1 ?h2 ?_ ?h3; (case h0 => first | (with_reducible rfl) | (with_reducible assumption) | omega); (case h1 => first | (with_reducible rfl) | (with_reducible assumption) | omega); (case h2 => first | (with_reducible rfl) | (with_reducible assumption) | omega); (case h3 => with_unfolding_all rfl)) | (k_here; (with_reducible show wpAny _ _ (subscriptTail _ _ (Value.ref _) (Value.int _ _)) _ _ _); refine' tab_at ?f ?l ?r ?k ?z ?_; (case f => k_asm); (case l => assumption); (case r => assumption); (case k => first | assumption | omega); (case z => assumption)) | (k_here; (with_reducible show wpAny _ _ (call (Value.builtin "len") [Value.ref _]) _ _ _); refine' len_list (Fr.lst ?f ?l) ?z ?_; (case f => k_asm); (case l => assumption); (case z => (simp only [List.size_toArray, tabRefs_len]; omega)); (simp only [List.size_toArray, tabRefs_len])) | walk1)
    simp only [hK]
    iterate 17 (first | (k_here; (with_reducible show wpAny _ _ (subscriptTail _ _ (Value.str _ _) (Value.int _ _)) _ _ _); refine' str_at ?h0 ?h1 ?h2 ?_ ?h3; (case h0 => first | (with_reducible rfl) | (with_reducible assumption) | omega); (case h1 => first | (with_reducible rfl) | (with_reducible assumption) | omega); (case h2 => first | (with_reducible rfl) | (with_reducible assumption) | omega); (case h3 => with_unfolding_all rfl)) | (k_here; (with_reducible show wpAny _ _ (subscriptTail _ _ (Value.ref _) (Value.int _ _)) _ _ _); refine' tab_at ?f ?l ?r ?k ?z ?_; (case f => k_asm); (case l => assumption); (case r => assumption); (case k => first | assumption | omega); (case z => assumption)) | (k_here; (with_reducible show wpAny _ _ (call (Value.builtin "len") [Value.ref _]) _ _ _); refine' len_list (Fr.lst ?f ?l) ?z ?_; (case f => k_asm); (case l => assumption); (case z => (simp only [List.size_toArray, tabRefs_len]; omega)); (simp only [List.size_toArray, tabRefs_len])) | walk1)
    simp only [hm]
    generalize (if (cj : Int) < (ci : Int) then tcj else tci) = tcm
    repeat ((fail_if_success (with_reducible show wpAny _ _ (pyIter _) _ _ _)); (first | (k_here; (with_reducible show wpAny _ _ (subscriptTail _ _ (Value.str _ _) (Value.int _ _)) _ _ _); refine' str_at ?h0 ?h1 ?h2 ?_ ?h3; (case h0 => first | (with_reducible rfl) | (with_reducible assumption) | omega); (case h1 => first | (with_reducible rfl) | (with_reducible assumption) | omega); (case h2 => first | (with_reducible rfl) | (with_reducible assumption) | omega); (case h3 => with_unfolding_all rfl)) | (k_here; (with_reducible show wpAny _ _ (subscriptTail _ _ (Value.ref _) (Value.int _ _)) _ _ _); refine' tab_at ?f ?l ?r ?k ?z ?_; (case f => k_asm); (case l => assumption); (case r => assumption); (case k => first | assumption | omega); (case z => assumption)) | (k_here; (with_reducible show wpAny _ _ (call (Value.builtin "len") [Value.ref _]) _ _ _); refine' len_list (Fr.lst ?f ?l) ?z ?_; (case f => k_asm); (case l => assumption); (case z => (simp only [List.size_toArray, tabRefs_len]; omega)); (simp only [List.size_toArray, tabRefs_len])) | walk1))
    rename IsRange _ _ _ _ _ _ _ _ => rgX
    rename Fr g' _ _ _ => FZ
    rename News g' _ _ _ => NZ
    refine' rangeD_q (fun (z : Int × Nat × Tok × Tok) => ((x, instObj 852 dx) :: (dx, dictOf (self8 w.params t1 t2 t3 t4 t5 t6 t7 t8 (.str c u) (.int cu tc) (.int li tl) (.int lb tb) bra ket pv p2) 8) :: rest)) (fun z => [(Str.ofString "diff", .int z.1 z.2.2.1), (Str.ofString "common", .int (z.2.1 : Int) z.2.2.2)]) (fun pre z => inn r.s c cu lb (r.s.length - z.2.1) z.2.1 = inn r.s c cu lb (r.s.length - min ci cj) (min ci cj) ∧ z.1 = 0 ∧ z.2.1 = min ci cj + pre.length ∧ (z.2.1 : Int) ≤ cu - lb) (fun z => (z.1, z.2.1) = inn r.s c cu lb (r.s.length - min ci cj) (min ci cj) ∧ (z.2.1 : Int) ≤ cu - lb) (0, min ci cj, _, tcm) (by rfl) rgX ?ks ?kr FZ ?kn ?kk ?kp ?_ ?_ ?_
    case ks => exact small_down (by omega) (by omega) (by omega) (by omega)
    case kr => exact rangeSize_downNat _ _
    case kn => dsimp only [self8, ent]; exact NZ
    case kk => kst_all
    case kp => exact ⟨rfl, rfl, rfl, hmin⟩
    · intro HQ2
      rintro ⟨d, cm, td, tcm2⟩ pre k t uu2 h2 tk2 own hk2 hlt hoff2 ⟨hP1, hP2, hP3, hP4⟩ FF2 NN2
      dsimp only [self8, ent] at NN2 hP1 hP2 hP3 hP4 FF2
      (try k_fold)
      repeat' ((fail_if_success (with_reducible refine Stop.mk ?_)); (first | (k_unfold; (try dsimp only)) | (k_end; wrow_close) | (k_here; (with_reducible show wpAny _ _ (subscriptTail _ _ (Value.str _ _) (Value.int _ _)) _ _ _); refine' str_at ?h0 ?h1 ?h2 ?_ ?h3; (case h0 => first | (with_reducible rfl) | (with_reducible assumption) | omega); (case h1 => first | (with_reducible rfl) | (with_reducible assumption) | omega); (case h2 => first | (with_reducible rfl) | (with_reducible assumption) | omega); (case h3 => with_unfolding_all rfl)) | (k_here; (with_reducible show wpAny _ _ (subscriptTail _ _ (Value.ref _) (Value.int _ _)) _ _ _); refine' tab_at ?f ?l ?r ?k ?z ?_; (case f => k_asm); (case l => assumption); (case r => assumption); (case k => first | assumption | omega); (case z => assumption)) | (k_here; (with_reducible show wpAny _ _ (call (Value.builtin "len") [Value.ref _]) _ _ _); refine' len_list (Fr.lst ?f ?l) ?z ?_; (case f => k_asm); (case l => assumption); (case z => (simp only [List.size_toArray, tabRefs_len]; omega)); (simp only [List.size_toArray, tabRefs_len])) | walk1 | (dsimp only; walk1) | (leave1; walk_say "STEP leave1"; try dsimp only) | fail "no step"))
      all_goals (have hlt3 : cm < r.s.length := by omega)
      all_goals (have hk3 : k = (r.s.length : Int) - 1 - cm := by omega)
      all_goals first
        | (have h1 : cu - (cm : Int) = lb := (by assumption)
           with_unfolding_all refine Stop.mk ?_
           refine' HQ2 (-1, cm, _, _) _ _ _ _ (by assumption) (by assumption) ?zN ?zK ?zR ?zP
           case zK => kst_all
           case zN => first | (with_reducible exact fun _ h => h) | (with_reducible exact fun _ h => List.mem_append_left _ h) | (with_reducible exact fun _ h => List.mem_append_right _ h) | exact fun _ h => List.mem_append_left _ h | kst_in
           case zR => (intro z h1 h2 h3; (try dsimp only at h2); (try simp only [List.forall_mem_cons, List.not_mem_nil, false_implies, implies_true, and_true, ne_eq] at h2); simp [kstB, h1, h2])
           case zP => exact ⟨(inn_lb hlt3 h1).symm.trans hP1, hP4⟩)
        | (have h1 : cu - (cm : Int) ≠ lb := (by assumption)
           have h2 : ((c.cps.getD (cu - 1 - cm).toNat 0 : Nat) : Int) - ((r.s.cps.getD k.toNat 0 : Nat) : Int) ≠ 0 := (by assumption)
           with_unfolding_all refine Stop.mk ?_
           refine' HQ2 (_, cm, _, _) _ _ _ _ (by assumption) (by assumption) ?zN ?zK ?zR ?zP
           case zK => kst_all
           case zN => first | (with_reducible exact fun _ h => h) | (with_reducible exact fun _ h => List.mem_append_left _ h) | (with_reducible exact fun _ h => List.mem_append_right _ h) | exact fun _ h => List.mem_append_left _ h | kst_in
           case zR => (intro z h1 h2 h3; (try dsimp only at h2); (try simp only [List.forall_mem_cons, List.not_mem_nil, false_implies, implies_true, and_true, ne_eq] at h2); simp [kstB, h1, h2])
           case zP => exact ⟨(inn_ne hlt3 h1 hk3 h2).symm.trans hP1, hP4⟩)
        | (have h1 : cu - (cm : Int) ≠ lb := (by assumption)
           have h2 : ((c.cps.getD (cu - 1 - cm).toNat 0 : Nat) : Int) - ((r.s.cps.getD k.toNat 0 : Nat) : Int) = 0 := (by assumption)
           refine Stop.mk ?_
           refine' kst_end (_, cm + 1, _, _) (by assumption) (by assumption) ?zN ?zO ?zA ?zT ?zK ?zR ?zP
           case zK => kst_all
           case zN => first | (with_reducible exact fun _ h => h) | (with_reducible exact fun _ h => List.mem_append_left _ h) | (with_reducible exact fun _ h => List.mem_append_right _ h) | exact fun _ h => List.mem_append_left _ h | kst_in
           case zT => trivial
           case zO => first | (with_reducible exact fun _ h => h) | (with_reducible exact fun _ h => List.mem_append_left _ h) | (with_reducible exact fun _ h => List.mem_append_right _ h) | exact fun _ h => List.mem_append_right _ h | kst_in
           case zA => rfl
           case zR => (intro z h1 h2 h3; (try dsimp only at h2); (try simp only [List.forall_mem_cons, List.not_mem_nil, false_implies, implies_true, and_true, ne_eq] at h2); simp [kstB, h1, h2])
           case zP => exact ⟨(inn_eq hlt3 h1 hk3 h2).symm.trans hP1, h2, (by rw [List.length_append, List.length_singleton]; dsimp only; omega), (by dsimp only; omega)⟩)
    · rintro ⟨d, cm, td, tcm2⟩ ⟨hP1, hP2, hP3, hP4⟩
      dsimp only at hP1 hP2 hP3 hP4 ⊢
      refine ⟨?_, hP4⟩
      have e : r.s.length - cm = 0 := by rw [hP3, downKs_length]; omega
      rw [e] at hP1
      rw [← hP1, hP2]
      rfl
    · rintro ⟨d, cm, td, tcm2⟩ uu3 h3 tk3 ⟨hR1, hR2⟩ F3 N3
      dsimp only [self8, ent] at N3 hR1 hR2 F3
      have hf' : f = (f - 1) + 1 := bs_pos hbs
      have hKi := (mid_le hKd hij).1
      have hKj := (mid_le hKd hij).2
      have hKl : K ≤ rows.length := Nat.le_of_lt hKn
      have hb' := bs_stepB hr hKd hR1 hKi hKj hbs
      clear hbs
      repeat' ((fail_if_success (with_reducible refine Stop.mk ?_)); (first | (k_unfold; (try dsimp only)) | (k_end; wrow_close) | (k_here; (with_reducible show wpAny _ _ (subscriptTail _ _ (Value.str _ _) (Value.int _ _)) _ _ _); refine' str_at ?h0 ?h1 ?h2 ?_ ?h3; (case h0 => first | (with_reducible rfl) | (with_reducible assumption) | omega); (case h1 => first | (with_reducible rfl) | (with_reducible assumption) | omega); (case h2 => first | (with_reducible rfl) | (with_reducible assumption) | omega); (case h3 => with_unfolding_all rfl)) | (k_here; (with_reducible show wpAny _ _ (subscriptTail _ _ (Value.ref _) (Value.int _ _)) _ _ _); refine' tab_at ?f ?l ?r ?k ?z ?_; (case f => k_asm); (case l => assumption); (case r => assumption); (case k => first | assumption | omega); (case z => assumption)) | (k_here; (with_reducible show wpAny _ _ (call (Value.builtin "len") [Value.ref _]) _ _ _); refine' len_list (Fr.lst ?f ?l) ?z ?_; (case f => k_asm); (case l => assumption); (case z => (simp only [List.size_toArray, tabRefs_len]; omega)); (simp only [List.size_toArray, tabRefs_len])) | walk1 | (dsimp only; walk1) | (leave1; walk_say "STEP leave1"; try dsimp only) | fail "no step"))
      all_goals first
        | (with_unfolding_all refine Stop.mk ?_
           refine' HQ (f - 1, _, _, _, _, _, _, _, _, _) _ _ _ _ (by assumption) (by assumption) ?zN ?zK ?zR ?zP
           case zK => kst_all
           case zN => first | (with_reducible exact fun _ h => h) | (with_reducible exact fun _ h => List.mem_append_left _ h) | (with_reducible exact fun _ h => List.mem_append_right _ h) | exact fun _ h => h | kst_in
           case zR => (intro z h2 h3; (try dsimp only at h2); (try simp only [List.forall_mem_cons, List.not_mem_nil, false_implies, implies_true, and_true, ne_eq] at h2); (try simp only [List.contains_cons, List.contains_nil, Bool.or_false, Bool.or_eq_false_iff, beq_eq_false_iff_ne, ne_eq] at h3); simp [kstB, h2, h3])
           case zP =>
             (repeat (first | replace hb' := ite_p hb' (by with_reducible assumption) | replace hb' := ite_n hb' (by with_reducible assumption) | replace hb' := ite_nb hb' (by with_reducible assumption)))
             cases hb'
             exact ⟨rfl, rfl⟩)
        | (refine Stop.mk ?_
           refine' ksw_end (f - 1, _, _, _, _, _, _, _, _, _) (by assumption) (by assumption) ?zN ?zT ?zK ?zR ?zP ?zM
           case zT => trivial
           case zK => kst_all
           case zN => first | (with_reducible exact fun _ h => h) | (with_reducible exact fun _ h => List.mem_append_left _ h) | (with_reducible exact fun _ h => List.mem_append_right _ h) | exact fun _ h => h | kst_in
           case zR => (intro z h2 h3; (try dsimp only at h2); (try simp only [List.forall_mem_cons, List.not_mem_nil, false_implies, implies_true, and_true, ne_eq] at h2); (try simp only [List.contains_cons, List.contains_nil, Bool.or_false, Bool.or_eq_false_iff, beq_eq_false_iff_ne, ne_eq] at h3); simp [kstB, h2, h3])
           case zP =>
             (repeat (first | replace hb' := ite_p hb' (by with_reducible assumption) | replace hb' := ite_n hb' (by with_reducible assumption) | replace hb' := ite_nb hb' (by with_reducible assumption)))
             exact ⟨hb', by with_reducible assumption, by with_reducible assumption, by with_reducible assumption, by with_reducible assumption, by with_reducible assumption⟩
           case zM => exact pred_lt' hf')
  · rintro ⟨f, i, j, ci, cj, fk, ti, tj, tci, tcj⟩ uu4 h4 tk4 ⟨hRi, hRc⟩ F4 N4
    dsimp only [self8, ent] at N4 hRi hRc F4
    subst hRi hRc
    dsimp only
    walk1
    refine' while_q (fun (z : Nat × Int × Tok) => ((x, instObj 852 dx) :: (dx, dictOf (self8 w.params t1 t2 t3 t4 t5 t6 t7 t8 (.str c u) (.int cu tc) (.int li tl) (.int lb tb) bra ket pv p2) 8) :: rest)) (fun z => [(Str.ofString "i", .int z.2.1 z.2.2)]) ["w"] (fun z => chain rows ci z.1 z.2.1.toNat = some res ∧ 0 ≤ z.2.1) (fun _ => False) (fun z => z.1) (fu2, (i : Int), ti) (by assumption) ?kn ?kk ?kp ?_ ?_
    case kn => dsimp only [self8, ent]; assumption
    case kk => kst_all
    case kp => exact ⟨hch, Int.natCast_nonneg _⟩
    · intro HQ
      rintro ⟨f, i9, ti9⟩ uu hh tk ⟨hc9, hi9⟩ FF NN
      dsimp only [self8, ent] at NN hc9 hi9 FF
      obtain ⟨K, rfl⟩ : ∃ K : Nat, i9 = (K : Int) := ⟨i9.toNat, by omega⟩
      rw [Int.toNat_natCast] at hc9
      obtain ⟨r, hr, f', rfl, hc8⟩ := chain_step hc9
      have hrs := hshort K r hr
      repeat' ((fail_if_success (with_reducible refine Stop.mk ?_)); (first | (k_unfold; (try dsimp only)) | (k_end; wrow_close) | (k_here; (with_reducible show wpAny _ _ (subscriptTail _ _ (Value.str _ _) (Value.int _ _)) _ _ _); refine' str_at ?h0 ?h1 ?h2 ?_ ?h3; (case h0 => first | (with_reducible rfl) | (with_reducible assumption) | omega); (case h1 => first | (with_reducible rfl) | (with_reducible assumption) | omega); (case h2 => first | (with_reducible rfl) | (with_reducible assumption) | omega); (case h3 => with_unfolding_all rfl)) | (k_here; (with_reducible show wpAny _ _ (subscriptTail _ _ (Value.ref _) (Value.int _ _)) _ _ _); refine' tab_at ?f ?l ?r ?k ?z ?_; (case f => k_asm); (case l => assumption); (case r => assumption); (case k => first | assumption | omega); (case z => assumption)) | (k_here; (with_reducible show wpAny _ _ (call (Value.builtin "len") [Value.ref _]) _ _ _); refine' len_list (Fr.lst ?f ?l) ?z ?_; (case f => k_asm); (case l => assumption); (case z => (simp only [List.size_toArray, tabRefs_len]; omega)); (simp only [List.size_toArray, tabRefs_len])) | walk1 | (dsimp only; walk1) | (leave1; walk_say "STEP leave1"; try dsimp only) | fail "no step"))
      all_goals first
        | (have h1 : (r.s.length : Int) ≤ (ci : Int) := (by assumption)
           rw [if_pos (Int.ofNat_le.mp h1)] at hc8
           with_unfolding_all refine Stop.mk ?_
           dsimp only [KswPost]
           repeat' ((fail_if_success (with_reducible refine Stop.mk ?_)); (first | (k_unfold; (try dsimp only)) | (k_end; wrow_close) | (k_here; (with_reducible show wpAny _ _ (subscriptTail _ _ (Value.str _ _) (Value.int _ _)) _ _ _); refine' str_at ?h0 ?h1 ?h2 ?_ ?h3; (case h0 => first | (with_reducible rfl) | (with_reducible assumption) | omega); (case h1 => first | (with_reducible rfl) | (with_reducible assumption) | omega); (case h2 => first | (with_reducible rfl) | (with_reducible assumption) | omega); (case h3 => with_unfolding_all rfl)) | (k_here; (with_reducible show wpAny _ _ (subscriptTail _ _ (Value.ref _) (Value.int _ _)) _ _ _); refine' tab_at ?f ?l ?r ?k ?z ?_; (case f => k_asm); (case l => assumption); (case r => assumption); (case k => first | assumption | omega); (case z => assumption)) | (k_here; (with_reducible show wpAny _ _ (call (Value.builtin "len") [Value.ref _]) _ _ _); refine' len_list (Fr.lst ?f ?l) ?z ?_; (case f => k_asm); (case l => assumption); (case z => (simp only [List.size_toArray, tabRefs_len]; omega)); (simp only [List.size_toArray, tabRefs_len])) | walk1 | (dsimp only; walk1) | (leave1; walk_say "STEP leave1"; try dsimp only) | fail "no step"))
           all_goals exact hret1 _ (Option.some.inj hc8).symm _ _ _ _ (by assumption) (by assumption))
        | (have h1 : ¬ (r.s.length : Int) ≤ (ci : Int) := (by assumption)
           have h2 : r.i < 0 := (by assumption)
           rw [if_neg (fun h => h1 (Int.ofNat_le.mpr h)), if_pos h2] at hc8
           with_unfolding_all refine Stop.mk ?_
           dsimp only [KswPost]
           repeat' ((fail_if_success (with_reducible refine Stop.mk ?_)); (first | (k_unfold; (try dsimp only)) | (k_end; wrow_close) | (k_here; (with_reducible show wpAny _ _ (subscriptTail _ _ (Value.str _ _) (Value.int _ _)) _ _ _); refine' str_at ?h0 ?h1 ?h2 ?_ ?h3; (case h0 => first | (with_reducible rfl) | (with_reducible assumption) | omega); (case h1 => first | (with_reducible rfl) | (with_reducible assumption) | omega); (case h2 => first | (with_reducible rfl) | (with_reducible assumption) | omega); (case h3 => with_unfolding_all rfl)) | (k_here; (with_reducible show wpAny _ _ (subscriptTail _ _ (Value.ref _) (Value.int _ _)) _ _ _); refine' tab_at ?f ?l ?r ?k ?z ?_; (case f => k_asm); (case l => assumption); (case r => assumption); (case k => first | assumption | omega); (case z => assumption)) | (k_here; (with_reducible show wpAny _ _ (call (Value.builtin "len") [Value.ref _]) _ _ _); refine' len_list (Fr.lst ?f ?l) ?z ?_; (case f => k_asm); (case l => assumption); (case z => (simp only [List.size_toArray, tabRefs_len]; omega)); (simp only [List.size_toArray, tabRefs_len])) | walk1 | (dsimp only; walk1) | (leave1; walk_say "STEP leave1"; try dsimp only) | fail "no step"))
           all_goals exact hret0 (Option.some.inj hc8).symm _ _ _ (by assumption) (by assumption))
        | (have h1 : ¬ (r.s.length : Int) ≤ (ci : Int) := (by assumption)
           have h2 : ¬ r.i < 0 := (by assumption)
           rw [if_neg (fun h => h1 (Int.ofNat_le.mpr h)), if_neg h2] at hc8
           refine Stop.mk ?_
           refine' ksw_end (f', r.i, _) (by assumption) (by assumption) ?zN ?zT ?zK ?zR ?zP ?zM
           case zK => kst_all
           case zT => trivial
           case zN => first | (with_reducible exact fun _ h => h) | (with_reducible exact fun _ h => List.mem_append_left _ h) | (with_reducible exact fun _ h => List.mem_append_right _ h) | exact fun _ h => h | kst_in
           case zR => (intro z h2 h3; (try dsimp only at h2); (try simp only [List.forall_mem_cons, List.not_mem_nil, false_implies, implies_true, and_true, ne_eq] at h2); (try simp only [List.contains_cons, List.contains_nil, Bool.or_false, Bool.or_eq_false_iff, beq_eq_false_iff_ne, ne_eq] at h3); simp [kstB, h2, h3])
           case zP => exact ⟨hc8, by dsimp only; omega⟩
           case zM => exact Nat.lt_succ_self _)
    · rintro _ _ _ _ h
      exact h.elim
end
end Mine
end
section
open PySem PySem.W PyProof.Rows PySem.Calls
set_option maxRecDepth 100000
set_option maxHeartbeats 4000000
set_option linter.unusedVariables false
namespace Mine
/-- a table, as the heap holds it -/
structure Tab (P : Params) (h : Heap) (la b : Nat) (rows : List AmRow) : Prop where
  la_ : h.IsList la (tabRefs b rows.length).toArray
  tab : AmTab P h b rows
  le : rows.length ≤ 1000
  pos : 0 < rows.length
  short : ∀ (k : Nat) (r : AmRow), rows[k]? = some r → r.s.length ≤ 100
theorem Tab.keeps {P : Params} {h h' : Heap} {la b : Nat} {rows : List AmRow} (T : Tab P h la b rows) (k : ∀ b o, h.get? b = some o → h'.get? b = some o) : Tab P h' la b rows := ⟨let ⟨o, ho, r⟩ := T.la_; ⟨o, k la o ho, r⟩, T.tab.keeps k, T.le, T.pos, T.short⟩
/-- the search answers so -/
noncomputable def Finds (rows : List AmRow) (c : Str) (cu lb : Int) (res : Option Nat) : Prop := ∃ fu ri rc fu2, bs (cmpT rows c cu lb) fu 0 rows.length 0 0 false = some (ri, rc) ∧ chain rows rc fu2 ri = some res

section
variable {w : World} {p : Program} {loose : List Str} {mean : ExcName → Option Value} {mg mb : Str → Option Value} {dp un : Nat} {gd : Option (List Code)} {cn : Str} {cs : Scope} {a : Addr} {ccd : Value} {cl : List (Str × Addr)} {outer : List Env} {A₀ : Around} {base h₀ : Heap} {L : Addr} {m : Str → Option Value} {s : Shared} {Q E : Value → Shared → Prop}
theorem find_hit (x dx : Addr) (c : Str) (u : Tok) (cu li lb : Int) (bra ket pv p2 : Value) (tc tl tb : Tok) (t1 t2 t3 t4 t5 t6 t7 t8 : Tok) (rest : List (Addr × Obj))
    (la b : Nat) (rows : List AmRow) (n : Nat) (FD : Finds rows c cu lb (some n)) (TT : Tab w.params h₀ la b rows)
    (hcl : cu ≤ c.length) (hcu : lb ≤ cu) (hlb : 0 ≤ lb) (hlen : (c.length : Int) ≤ 1000)
    (hoff : ∀ p ∈ rest, p.1 ≠ dx) (hx : x ≠ dx)
    (B : Below A₀ base outer h₀) (F : Fr h₀ L s.heap m) (X : (KA w.params).In h₀) (V : VSet w h₀)
    (N : News h₀ L s.heap ((x, instObj 852 dx) :: (dx, dictOf (self8 w.params t1 t2 t3 t4 t5 t6 t7 t8 (.str c u) (.int cu tc) (.int li tl) (.int lb tb) bra ket pv p2) 8) :: rest))
    (T : Top p loose mean mg mb h₀) (hk : cs.kind = .function) (hd : dp + 20 < recursionLimit) (hu : un + 160 < cLine)
    (hret : ∀ h' tk' tc' t', Fr h₀ L h' m → News h₀ L h' ((x, instObj 852 dx) :: (dx, dictOf (self8 w.params t1 t2 t3 t4 t5 t6 t7 t8 (.str c u) (.int (cu - (n : Nat)) tc') (.int li tl) (.int lb tb) bra ket pv p2) 8) :: rest) → Q (.int 1 t') { s with heap := h', toks := tk' }) :
    wpAny (model prog0 w) (ktrTop dp un gd cn cs L a ccd cl outer) (call (.ref 140) [.ref x, .ref la]) Q E s := by
  obtain ⟨fu, ri, rc, fu2, hb, hch⟩ := FD
  refine find_b x dx c u cu li lb bra ket pv p2 tc tl tb t1 t2 t3 t4 t5 t6 t7 t8 rest la b rows fu ri rc hb fu2 _ hch TT.la_ TT.tab TT.le TT.pos TT.short hcl hcu hlb hlen hoff hx B F X V N T hk hd hu ?_ ?_
  · intro k e h' tk' tc' t' F' N'
    cases e
    exact hret h' tk' tc' t' F' N'
  · intro e
    exact nomatch e
theorem find_miss (x dx : Addr) (c : Str) (u : Tok) (cu li lb : Int) (bra ket pv p2 : Value) (tc tl tb : Tok) (t1 t2 t3 t4 t5 t6 t7 t8 : Tok) (rest : List (Addr × Obj))
    (la b : Nat) (rows : List AmRow) (FD : Finds rows c cu lb none) (TT : Tab w.params h₀ la b rows)
    (hcl : cu ≤ c.length) (hcu : lb ≤ cu) (hlb : 0 ≤ lb) (hlen : (c.length : Int) ≤ 1000)
    (hoff : ∀ p ∈ rest, p.1 ≠ dx) (hx : x ≠ dx)
    (B : Below A₀ base outer h₀) (F : Fr h₀ L s.heap m) (X : (KA w.params).In h₀) (V : VSet w h₀)
    (N : News h₀ L s.heap ((x, instObj 852 dx) :: (dx, dictOf (self8 w.params t1 t2 t3 t4 t5 t6 t7 t8 (.str c u) (.int cu tc) (.int li tl) (.int lb tb) bra ket pv p2) 8) :: rest))
    (T : Top p loose mean mg mb h₀) (hk : cs.kind = .function) (hd : dp + 20 < recursionLimit) (hu : un + 160 < cLine)
    (hret : ∀ h' tk' t', Fr h₀ L h' m → News h₀ L h' ((x, instObj 852 dx) :: (dx, dictOf (self8 w.params t1 t2 t3 t4 t5 t6 t7 t8 (.str c u) (.int cu tc) (.int li tl) (.int lb tb) bra ket pv p2) 8) :: rest) → Q (.int 0 t') { s with heap := h', toks := tk' }) :
    wpAny (model prog0 w) (ktrTop dp un gd cn cs L a ccd cl outer) (call (.ref 140) [.ref x, .ref la]) Q E s := by
  obtain ⟨fu, ri, rc, fu2, hb, hch⟩ := FD
  refine find_b x dx c u cu li lb bra ket pv p2 tc tl tb t1 t2 t3 t4 t5 t6 t7 t8 rest la b rows fu ri rc hb fu2 _ hch TT.la_ TT.tab TT.le TT.pos TT.short hcl hcu hlb hlen hoff hx B F X V N T hk hd hu ?_ ?_
  · intro k e
    exact nomatch e
  · intro _ h' tk' t' F' N'
    exact hret h' tk' t' F' N'
end
end Mine
end
section
open PySem PySem.W PyProof.Rows PySem.Calls
set_option maxRecDepth 100000
set_option maxHeartbeats 4000000
set_option linter.unusedVariables false
namespace Mine
noncomputable def dl (c : Str) (a b : Int) : Str := Txt.slice c (some 0) (some a) ++ Str.ofString "" ++ Txt.slice c (some b) none
local macro_rules | `(tactic| k_all) => `(tactic| assumption)
section
variable {w : World} {p : Program} {loose : List Str} {mean : ExcName → Option Value} {mg mb : Str → Option Value} {dp un : Nat} {gd : Option (List Code)} {cn : Str} {cs : Scope} {a : Addr} {ccd : Value} {cl : List (Str × Addr)} {outer : List Env} {A₀ : Around} {base h₀ : Heap} {L : Addr} {m : Str → Option Value} {s : Shared} {Q E : Value → Shared → Prop}
theorem repl_s (x dx : Addr) (c : Str) (u : Tok) (cu li a0 b0 : Int) (lb bra ket pv p2 : Value) (tc tl ta tb tse : Tok) (t1 t2 t3 t4 t5 t6 t7 t8 : Tok) (rest : List (Addr × Obj))
    (h0 : 0 ≤ a0) (hab : a0 < b0) (hb : b0 = c.length) (hli : li = c.length) (hcu : cu = a0) (hlen : (c.length : Int) ≤ 1000)
    (hoff : ∀ p ∈ rest, p.1 ≠ dx) (hx : x ≠ dx)
    (B : Below A₀ base outer h₀) (F : Fr h₀ L s.heap m) (X : (KA w.params).In h₀) (V : VSet w h₀)
    (N : News h₀ L s.heap ((x, instObj 852 dx) :: (dx, dictOf (self8 w.params t1 t2 t3 t4 t5 t6 t7 t8 (.str c u) (.int cu tc) (.int li tl) lb bra ket pv p2) 8) :: rest))
    (T : Top p loose mean mg mb h₀) (hk : cs.kind = .function) (hd : dp + 60 < recursionLimit) (hu : un + 600 < cLine)
    (hret : ∀ h' tk' c' u' li' tl' r tr, Fr h₀ L h' m → News h₀ L h' ((x, instObj 852 dx) :: (dx, dictOf (self8 w.params t1 t2 t3 t4 t5 t6 t7 t8 (.str c' u') (.int cu tc) (.int li' tl') lb bra ket pv p2) 8) :: rest) → c' = dl c a0 b0 → li' = li - (b0 - a0) → Q (.int r tr) { s with heap := h', toks := tk' }) :
    wpAny (model prog0 w) (ktrTop dp un gd cn cs L a ccd cl outer) (call (.ref 147) [.ref x, .int a0 ta, .int b0 tb, .str (Str.ofString "") tse]) Q E s := by
  have hfill : PySem.Challenge.rw_ak0021_01.name = PySem.Challenge.rw_ak0021_01.name ∧ KA = KA := by
    k_fill
    exact ⟨rfl, rfl⟩
  clear hfill
  w_on
  dsimp only [self8, ent] at N
  refine wpAny_call ?_
  k_dflt cell_enter
  rename_i g' L' h' FG' F' N' B' X' T'
  have V' := V.keeps FG'.keep
  generalize s.toks + _ = tk0
  k_steps
  all_goals (refine' hret _ _ _ _ _ _ _ _ (by assumption) (by assumption) ?zE ?zL)
  case zE => rfl
  case zL => omega
section
theorem slice_f (x dx : Addr) (c : Str) (u : Tok) (cu li a0 b0 : Int) (lb pv p2 : Value) (tc tl ta tb tse : Tok) (t1 t2 t3 t4 t5 t6 t7 t8 : Tok) (rest : List (Addr × Obj))
    (h0 : 0 ≤ a0) (hab : a0 < b0) (hb : b0 = c.length) (hli : li = c.length) (hcu : cu = a0) (hlen : (c.length : Int) ≤ 1000)
    (hoff : ∀ p ∈ rest, p.1 ≠ dx) (hx : x ≠ dx)
    (B : Below A₀ base outer h₀) (F : Fr h₀ L s.heap m) (X : (KA w.params).In h₀) (V : VSet w h₀)
    (N : News h₀ L s.heap ((x, instObj 852 dx) :: (dx, dictOf (self8 w.params t1 t2 t3 t4 t5 t6 t7 t8 (.str c u) (.int cu tc) (.int li tl) lb (.int a0 ta) (.int b0 tb) pv p2) 8) :: rest))
    (T : Top p loose mean mg mb h₀) (hk : cs.kind = .function) (hd : dp + 120 < recursionLimit) (hu : un + 1200 < cLine)
    (hret : ∀ h' tk' c' u' li' tl' ket', Fr h₀ L h' m → News h₀ L h' ((x, instObj 852 dx) :: (dx, dictOf (self8 w.params t1 t2 t3 t4 t5 t6 t7 t8 (.str c' u') (.int cu tc) (.int li' tl') lb (.int a0 ta) ket' pv p2) 8) :: rest) → c' = dl c a0 b0 → li' = li - (b0 - a0) → Q .none { s with heap := h', toks := tk' }) :
    wpAny (model prog0 w) (ktrTop dp un gd cn cs L a ccd cl outer) (call (.ref 154) [.ref x, .str (Str.ofString "") tse]) Q E s := by
  have hfill : PySem.Challenge.rw_ak0021_01.name = PySem.Challenge.rw_ak0021_01.name ∧ KA = KA := by
    k_fill
    exact ⟨rfl, rfl⟩
  clear hfill
  w_on
  dsimp only [self8, ent] at N
  refine wpAny_call ?_
  k_dflt cell_enter
  rename_i g' L' h' FG' F' N' B' X' T'
  have V' := V.keeps FG'.keep
  generalize s.toks + _ = tk0
  repeat' (first | (k_unfold; (try dsimp only)) | (k_end; wrow_close) | (k_here; (with_reducible show wpAny _ _ (call (Value.ref 147) _ _) _ _ _); refine' repl_s _ _ _ _ _ _ _ _ _ _ _ _ _ _ _ _ _ _ _ _ _ _ _ _ _ _ _ ?k1 ?k2 ?k3 ?k4 ?k5 ?k6 ?koff ?kx ?kB ?kF ?kX ?kV ?kN ?kT ?kk ?kd ?ku ?_; (case kF => k_asm); (case kN => k_asm); (case kB => k_asm); (case kX => k_asm); (case kV => k_asm); (case kT => k_asm); (case koff => assumption); (case kx => assumption); (case kk => first | exact rfl | assumption); (case k1 => first | (with_reducible rfl) | (with_reducible assumption) | omega); (case k2 => first | (with_reducible rfl) | (with_reducible assumption) | omega); (case k3 => first | (with_reducible rfl) | (with_reducible assumption) | omega); (case k4 => first | (with_reducible rfl) | (with_reducible assumption) | omega); (case k5 => first | (with_reducible rfl) | (with_reducible assumption) | omega); (case k6 => first | (with_reducible rfl) | (with_reducible assumption) | omega); (case kd => first | exact room1 (by with_reducible assumption) rfl | ktr_room); (case ku => first | exact unit1 (by with_reducible assumption) rfl | ktr_units); intro h9 tk9 c9 u9 li9 tl9 r9 tr9 F9 N9 e9 e99; dsimp only [self8, self6, ent] at N9; (try k_sweep)) | walk1 | (dsimp only; walk1) | (leave1; walk_say "STEP leave1"; try dsimp only) | fail "no step")
  all_goals (refine' hret _ _ _ _ _ _ _ (by assumption) (by assumption) ?zE ?zL)
  case zE => assumption
  case zL => assumption
end
section
theorem slice_d (x dx : Addr) (c : Str) (u : Tok) (cu li a0 b0 : Int) (lb pv p2 : Value) (tc tl ta tb : Tok) (t1 t2 t3 t4 t5 t6 t7 t8 : Tok) (rest : List (Addr × Obj))
    (h0 : 0 ≤ a0) (hab : a0 < b0) (hb : b0 = c.length) (hli : li = c.length) (hcu : cu = a0) (hlen : (c.length : Int) ≤ 1000)
    (hoff : ∀ p ∈ rest, p.1 ≠ dx) (hx : x ≠ dx)
    (B : Below A₀ base outer h₀) (F : Fr h₀ L s.heap m) (X : (KA w.params).In h₀) (V : VSet w h₀)
    (N : News h₀ L s.heap ((x, instObj 852 dx) :: (dx, dictOf (self8 w.params t1 t2 t3 t4 t5 t6 t7 t8 (.str c u) (.int cu tc) (.int li tl) lb (.int a0 ta) (.int b0 tb) pv p2) 8) :: rest))
    (T : Top p loose mean mg mb h₀) (hk : cs.kind = .function) (hd : dp + 180 < recursionLimit) (hu : un + 1800 < cLine)
    (hret : ∀ h' tk' c' u' li' tl' ket', Fr h₀ L h' m → News h₀ L h' ((x, instObj 852 dx) :: (dx, dictOf (self8 w.params t1 t2 t3 t4 t5 t6 t7 t8 (.str c' u') (.int cu tc) (.int li' tl') lb (.int a0 ta) ket' pv p2) 8) :: rest) → c' = dl c a0 b0 → li' = li - (b0 - a0) → Q .none { s with heap := h', toks := tk' }) :
    wpAny (model prog0 w) (ktrTop dp un gd cn cs L a ccd cl outer) (call (.ref 161) [.ref x]) Q E s := by
  have hfill : PySem.Challenge.rw_ak0021_01.name = PySem.Challenge.rw_ak0021_01.name ∧ KA = KA := by
    k_fill
    exact ⟨rfl, rfl⟩
  clear hfill
  w_on
  dsimp only [self8, ent] at N
  refine wpAny_call ?_
  k_dflt cell_enter
  rename_i g' L' h' FG' F' N' B' X' T'
  have V' := V.keeps FG'.keep
  generalize s.toks + _ = tk0
  repeat' (first | (k_unfold; (try dsimp only)) | (k_end; wrow_close) | (k_here; (with_reducible show wpAny _ _ (call (Value.ref 154) _ _) _ _ _); refine' slice_f _ _ _ _ _ _ _ _ _ _ _ _ _ _ _ _ _ _ _ _ _ _ _ _ _ ?k1 ?k2 ?k3 ?k4 ?k5 ?k6 ?koff ?kx ?kB ?kF ?kX ?kV ?kN ?kT ?kk ?kd ?ku ?_; (case kF => k_asm); (case kN => k_asm); (case kB => k_asm); (case kX => k_asm); (case kV => k_asm); (case kT => k_asm); (case koff => assumption); (case kx => assumption); (case kk => first | exact rfl | assumption); (case k1 => first | (with_reducible rfl) | (with_reducible assumption) | omega); (case k2 => first | (with_reducible rfl) | (with_reducible assumption) | omega); (case k3 => first | (with_reducible rfl) | (with_reducible assumption) | omega); (case k4 => first | (with_reducible rfl) | (with_reducible assumption) | omega); (case k5 => first | (with_reducible rfl) | (with_reducible assumption) | omega); (case k6 => first | (with_reducible rfl) | (with_reducible assumption) | omega); (case kd => first | exact room1 (by with_reducible assumption) rfl | ktr_room); (case ku => first | exact unit1 (by with_reducible assumption) rfl | ktr_units); intro h9 tk9 c9 u9 li9 tl9 ket9 F9 N9 e9 e99; dsimp only [self8, self6, ent] at N9; (try k_sweep)) | (k_here; (with_reducible show wpAny _ _ (call (Value.ref 147) _ _) _ _ _); refine' repl_s _ _ _ _ _ _ _ _ _ _ _ _ _ _ _ _ _ _ _ _ _ _ _ _ _ _ _ ?k1 ?k2 ?k3 ?k4 ?k5 ?k6 ?koff ?kx ?kB ?kF ?kX ?kV ?kN ?kT ?kk ?kd ?ku ?_; (case kF => k_asm); (case kN => k_asm); (case kB => k_asm); (case kX => k_asm); (case kV => k_asm); (case kT => k_asm); (case koff => assumption); (case kx => assumption); (case kk => first | exact rfl | assumption); (case k1 => first | (with_reducible rfl) | (with_reducible assumption) | omega); (case k2 => first | (with_reducible rfl) | (with_reducible assumption) | omega); (case k3 => first | (with_reducible rfl) | (with_reducible assumption) | omega); (case k4 => first | (with_reducible rfl) | (with_reducible assumption) | omega); (case k5 => first | (with_reducible rfl) | (with_reducible assumption) | omega); (case k6 => first | (with_reducible rfl) | (with_reducible assumption) | omega); (case kd => first | exact room1 (by with_reducible assumption) rfl | ktr_room); (case ku => first | exact unit1 (by with_reducible assumption) rfl | ktr_units); intro h9 tk9 c9 u9 li9 tl9 r9 tr9 F9 N9 e9 e99; dsimp only [self8, self6, ent] at N9; (try k_sweep)) | walk1 | (dsimp only; walk1) | (leave1; walk_say "STEP leave1"; try dsimp only) | fail "no step")
  all_goals (refine' hret _ _ _ _ _ _ _ (by assumption) (by assumption) ?zE ?zL)
  case zE => assumption
  case zL => assumption
end
end
end Mine
end
section
open PySem PySem.W PyProof.Rows PySem.Calls
set_option maxRecDepth 100000
set_option maxHeartbeats 4000000
set_option linter.unusedVariables false
namespace Mine
/-- what stays of the text -/
noncomputable def cutO (c : Str) (cu : Int) : Option Nat → Str
  | none => c
  | some n => dl c (cu - (n : Nat)) cu
theorem dl_is (c : Str) {a b : Int} (h0 : 0 ≤ a) (h1 : a ≤ c.length) (hb : b = c.length) : dl c a b = ⟨(c.cps.toList.take a.toNat).toArray⟩ := by
  unfold dl
  rw [slice_beyond (by omega : (c.length : Int) ≤ b), eq_of_beq (slice_closesL (by omega) h0 h1)]
  have e : Str.ofString "" = Str.empty := by decide +kernel
  rw [e]
  show (⟨(((c.cps.toList.drop (0 : Int).toNat).take (a - 0).toNat).toArray ++ #[]) ++ #[]⟩ : Str) = _
  simp
theorem cutO_len (c : Str) (res : Option Nat) (h : ∀ n, res = some n → (n : Int) ≤ c.length) : ((cutO c c.length res).length : Int) = c.length - ((res.getD 0 : Nat) : Int) := by
  cases res with
  | none => show (c.length : Int) = c.length - ((0 : Nat) : Int); omega
  | some n =>
    have hn := h n rfl
    show ((dl c ((c.length : Int) - n) c.length).length : Int) = c.length - ((n : Nat) : Int)
    rw [dl_is c (by omega) (by omega) rfl]
    show (((c.cps.toList.take _).toArray.size : Nat) : Int) = _
    have : c.cps.toList.length = c.length := by simp [Str.length]
    rw [List.size_toArray, List.length_take, this]
    omega
local macro_rules | `(tactic| k_all) => `(tactic| assumption)
section
variable {w : World} {p : Program} {loose : List Str} {mean : ExcName → Option Value} {mg mb : Str → Option Value} {dp un : Nat} {gd : Option (List Code)} {cn : Str} {cs : Scope} {a : Addr} {ccd : Value} {cl : List (Str × Addr)} {outer : List Env} {A₀ : Around} {base h₀ : Heap} {L : Addr} {m : Str → Option Value} {s : Shared} {Q E : Value → Shared → Prop}
theorem r_ending (x dx : Addr) (c : Str) (u : Tok) (cu li lb p2 : Int) (bra ket pv : Value) (tc tl tb tp2 : Tok) (t1 t2 t3 t4 t5 t6 t7 t8 : Tok) (rest : List (Addr × Obj))
    (b : Nat) (rows : List AmRow) (res : Option Nat) (hn : ∀ n, res = some n → 0 < n ∧ (n : Int) ≤ c.length - lb ∧ p2 ≤ c.length - n) (FD : Finds rows c c.length lb res) (TT : Tab w.params h₀ 849 b rows)
    (hcu : cu = c.length) (hli : li = c.length) (hlc : lb ≤ cu) (hlb : 0 ≤ lb) (hlen : (c.length : Int) ≤ 1000)
    (hoff : ∀ p ∈ rest, p.1 ≠ dx) (hx : x ≠ dx)
    (B : Below A₀ base outer h₀) (F : Fr h₀ L s.heap m) (X : (KA w.params).In h₀) (V : VSet w h₀)
    (N : News h₀ L s.heap ((x, instObj 852 dx) :: (dx, dictOf (self8 w.params t1 t2 t3 t4 t5 t6 t7 t8 (.str c u) (.int cu tc) (.int li tl) (.int lb tb) bra ket pv (.int p2 tp2)) 8) :: rest))
    (T : Top p loose mean mg mb h₀) (hk : cs.kind = .function) (hd : dp + 260 < recursionLimit) (hu : un + 2600 < cLine)
    (hret : ∀ h' tk' c' u' cu' tc' li' tl' bra' ket' rv, Fr h₀ L h' m → News h₀ L h' ((x, instObj 852 dx) :: (dx, dictOf (self8 w.params t1 t2 t3 t4 t5 t6 t7 t8 (.str c' u') (.int cu' tc') (.int li' tl') (.int lb tb) bra' ket' pv (.int p2 tp2)) 8) :: rest) → c' = cutO c c.length res → li' = c'.length → Q rv { s with heap := h', toks := tk' }) :
    wpAny (model prog0 w) (ktrTop dp un gd cn cs L a ccd cl outer) (call (.ref 265) [.ref x]) Q E s := by
  have hcl := cutO_len c res (fun n e => by have := hn n e; omega)
  rw [← hcu] at FD
  have hfill : PySem.Challenge.rw_ak0021_01.name = PySem.Challenge.rw_ak0021_01.name ∧ KA = KA := by
    k_fill
    exact ⟨rfl, rfl⟩
  clear hfill
  w_on
  dsimp only [self8, ent] at N
  refine wpAny_call ?_
  k_dflt cell_enter
  rename_i g' L' h' FG' F' N' B' X' T'
  have V' := V.keeps FG'.keep
  generalize s.toks + _ = tk0
  have TT' := TT.keeps FG'.keep
  clear TT
  rcases res with _ | n
  · clear hn
    repeat' (first | (k_unfold; (try dsimp only)) | (k_end; wrow_close) | (k_here; (with_reducible show wpAny _ _ (call (Value.ref 140) _ _) _ _ _); refine' find_miss _ _ _ _ _ _ _ _ _ _ _ _ _ _ _ _ _ _ _ _ _ _ _ _ _ _ ?kG ?kTT ?k1 ?k2 ?k3 ?k4 ?koff ?kx ?kB ?kF ?kX ?kV ?kN ?kT ?kk ?kd ?ku ?_; (case kF => k_asm); (case kN => k_asm); (case kB => k_asm); (case kX => k_asm); (case kV => k_asm); (case kT => k_asm); (case koff => assumption); (case kx => assumption); (case kk => first | exact rfl | assumption); (case kG => assumption); (case kTT => assumption); (case k1 => first | (with_reducible rfl) | (with_reducible assumption) | omega); (case k2 => first | (with_reducible rfl) | (with_reducible assumption) | omega); (case k3 => first | (with_reducible rfl) | (with_reducible assumption) | omega); (case k4 => first | (with_reducible rfl) | (with_reducible assumption) | omega); (case kd => first | exact room1 (by with_reducible assumption) rfl | ktr_room); (case ku => first | exact unit1 (by with_reducible assumption) rfl | ktr_units); intro h9 tk9 t9 F9 N9; dsimp only [self8, self6, ent] at N9; (try k_sweep)) | (k_here; (with_reducible show wpAny _ _ (call (Value.ref 140) _ _) _ _ _); refine' find_hit _ _ _ _ _ _ _ _ _ _ _ _ _ _ _ _ _ _ _ _ _ _ _ _ _ _ _ ?kG ?kTT ?k1 ?k2 ?k3 ?k4 ?koff ?kx ?kB ?kF ?kX ?kV ?kN ?kT ?kk ?kd ?ku ?_; (case kF => k_asm); (case kN => k_asm); (case kB => k_asm); (case kX => k_asm); (case kV => k_asm); (case kT => k_asm); (case koff => assumption); (case kx => assumption); (case kk => first | exact rfl | assumption); (case kG => assumption); (case kTT => assumption); (case k1 => first | (with_reducible rfl) | (with_reducible assumption) | omega); (case k2 => first | (with_reducible rfl) | (with_reducible assumption) | omega); (case k3 => first | (with_reducible rfl) | (with_reducible assumption) | omega); (case k4 => first | (with_reducible rfl) | (with_reducible assumption) | omega); (case kd => first | exact room1 (by with_reducible assumption) rfl | ktr_room); (case ku => first | exact unit1 (by with_reducible assumption) rfl | ktr_units); intro h9 tk9 tc9 t9 F9 N9; dsimp only [self8, self6, ent] at N9; (try k_sweep)) | walk1 | (dsimp only; walk1) | (leave1; walk_say "STEP leave1"; try dsimp only) | fail "no step")
    all_goals (refine' hret _ _ _ _ _ _ _ _ _ _ _ (by assumption) (by assumption) ?zE ?zL)
    case zE => rfl
    case zL => exact hli
  · obtain ⟨hn1, hn2, hn3⟩ := hn n rfl
    clear hn
    repeat' (first | (k_unfold; (try dsimp only)) | (k_end; wrow_close) | (k_here; (with_reducible show wpAny _ _ (call (Value.ref 140) _ _) _ _ _); refine' find_miss _ _ _ _ _ _ _ _ _ _ _ _ _ _ _ _ _ _ _ _ _ _ _ _ _ _ ?kG ?kTT ?k1 ?k2 ?k3 ?k4 ?koff ?kx ?kB ?kF ?kX ?kV ?kN ?kT ?kk ?kd ?ku ?_; (case kF => k_asm); (case kN => k_asm); (case kB => k_asm); (case kX => k_asm); (case kV => k_asm); (case kT => k_asm); (case koff => assumption); (case kx => assumption); (case kk => first | exact rfl | assumption); (case kG => assumption); (case kTT => assumption); (case k1 => first | (with_reducible rfl) | (with_reducible assumption) | omega); (case k2 => first | (with_reducible rfl) | (with_reducible assumption) | omega); (case k3 => first | (with_reducible rfl) | (with_reducible assumption) | omega); (case k4 => first | (with_reducible rfl) | (with_reducible assumption) | omega); (case kd => first | exact room1 (by with_reducible assumption) rfl | ktr_room); (case ku => first | exact unit1 (by with_reducible assumption) rfl | ktr_units); intro h9 tk9 t9 F9 N9; dsimp only [self8, self6, ent] at N9; (try k_sweep)) | (k_here; (with_reducible show wpAny _ _ (call (Value.ref 140) _ _) _ _ _); refine' find_hit _ _ _ _ _ _ _ _ _ _ _ _ _ _ _ _ _ _ _ _ _ _ _ _ _ _ _ ?kG ?kTT ?k1 ?k2 ?k3 ?k4 ?koff ?kx ?kB ?kF ?kX ?kV ?kN ?kT ?kk ?kd ?ku ?_; (case kF => k_asm); (case kN => k_asm); (case kB => k_asm); (case kX => k_asm); (case kV => k_asm); (case kT => k_asm); (case koff => assumption); (case kx => assumption); (case kk => first | exact rfl | assumption); (case kG => assumption); (case kTT => assumption); (case k1 => first | (with_reducible rfl) | (with_reducible assumption) | omega); (case k2 => first | (with_reducible rfl) | (with_reducible assumption) | omega); (case k3 => first | (with_reducible rfl) | (with_reducible assumption) | omega); (case k4 => first | (with_reducible rfl) | (with_reducible assumption) | omega); (case kd => first | exact room1 (by with_reducible assumption) rfl | ktr_room); (case ku => first | exact unit1 (by with_reducible assumption) rfl | ktr_units); intro h9 tk9 tc9 t9 F9 N9; dsimp only [self8, self6, ent] at N9; (try k_sweep)) | walk1 | (dsimp only; walk1) | (leave1; walk_say "STEP leave1"; try dsimp only) | fail "no step")
    refine' slice_d _ _ _ _ _ _ _ _ _ _ _ _ _ _ _ _ _ _ _ _ _ _ _ _ ?k1 ?k2 ?k3 ?k4 ?k5 ?k6 ?koff ?kx ?kB ?kF ?kX ?kV ?kN ?kT ?kk ?kd ?ku ?_
    case kF => k_asm
    case kN => k_asm
    case kB => k_asm
    case kX => k_asm
    case kV => k_asm
    case kT => k_asm
    case koff => assumption
    case kx => assumption
    case kk => first | exact rfl | assumption
    case k1 => omega
    case k2 => omega
    case k3 => omega
    case k4 => omega
    case k5 => omega
    case k6 => omega
    case kd => ktr_room
    case ku => ktr_units
    intro h9 tk9 c9 u9 li9 tl9 ket9 F9 N9 e9 e99
    dsimp only [self8, ent] at N9
    (try k_sweep)
    repeat' (first | (k_unfold; (try dsimp only)) | (k_end; wrow_close) | (k_here; (with_reducible show wpAny _ _ (call (Value.ref 140) _ _) _ _ _); refine' find_miss _ _ _ _ _ _ _ _ _ _ _ _ _ _ _ _ _ _ _ _ _ _ _ _ _ _ ?kG ?kTT ?k1 ?k2 ?k3 ?k4 ?koff ?kx ?kB ?kF ?kX ?kV ?kN ?kT ?kk ?kd ?ku ?_; (case kF => k_asm); (case kN => k_asm); (case kB => k_asm); (case kX => k_asm); (case kV => k_asm); (case kT => k_asm); (case koff => assumption); (case kx => assumption); (case kk => first | exact rfl | assumption); (case kG => assumption); (case kTT => assumption); (case k1 => first | (with_reducible rfl) | (with_reducible assumption) | omega); (case k2 => first | (with_reducible rfl) | (with_reducible assumption) | omega); (case k3 => first | (with_reducible rfl) | (with_reducible assumption) | omega); (case k4 => first | (with_reducible rfl) | (with_reducible assumption) | omega); (case kd => first | exact room1 (by with_reducible assumption) rfl | ktr_room); (case ku => first | exact unit1 (by with_reducible assumption) rfl | ktr_units); intro h9 tk9 t9 F9 N9; dsimp only [self8, self6, ent] at N9; (try k_sweep)) | (k_here; (with_reducible show wpAny _ _ (call (Value.ref 140) _ _) _ _ _); refine' find_hit _ _ _ _ _ _ _ _ _ _ _ _ _ _ _ _ _ _ _ _ _ _ _ _ _ _ _ ?kG ?kTT ?k1 ?k2 ?k3 ?k4 ?koff ?kx ?kB ?kF ?kX ?kV ?kN ?kT ?kk ?kd ?ku ?_; (case kF => k_asm); (case kN => k_asm); (case kB => k_asm); (case kX => k_asm); (case kV => k_asm); (case kT => k_asm); (case koff => assumption); (case kx => assumption); (case kk => first | exact rfl | assumption); (case kG => assumption); (case kTT => assumption); (case k1 => first | (with_reducible rfl) | (with_reducible assumption) | omega); (case k2 => first | (with_reducible rfl) | (with_reducible assumption) | omega); (case k3 => first | (with_reducible rfl) | (with_reducible assumption) | omega); (case k4 => first | (with_reducible rfl) | (with_reducible assumption) | omega); (case kd => first | exact room1 (by with_reducible assumption) rfl | ktr_room); (case ku => first | exact unit1 (by with_reducible assumption) rfl | ktr_units); intro h9 tk9 tc9 t9 F9 N9; dsimp only [self8, self6, ent] at N9; (try k_sweep)) | walk1 | (dsimp only; walk1) | (leave1; walk_say "STEP leave1"; try dsimp only) | fail "no step")
    all_goals (refine' hret _ _ _ _ _ _ _ _ _ _ _ (by assumption) (by assumption) ?zE ?zL)
    case zE => (show _ = dl c _ _); rw [← hcu]; assumption
    case zL => (have e8 : c9 = cutO c c.length (some n) := (by (show _ = dl c _ _); rw [← hcu]; assumption)); rw [e8, hcl]; (show _ = _ - ((n : Nat) : Int)); omega
theorem r_verb (x dx : Addr) (c : Str) (u : Tok) (cu li lb p2 : Int) (bra ket pv : Value) (tc tl tb tp2 : Tok) (t1 t2 t3 t4 t5 t6 t7 t8 : Tok) (rest : List (Addr × Obj))
    (b : Nat) (rows : List AmRow) (res : Option Nat) (hn : ∀ n, res = some n → 0 < n ∧ (n : Int) ≤ c.length - lb) (FD : Finds rows c c.length lb res) (TT : Tab w.params h₀ 556 b rows)
    (hcu : cu = c.length) (hli : li = c.length) (hlc : lb ≤ cu) (hlb : 0 ≤ lb) (hlen : (c.length : Int) ≤ 1000)
    (hoff : ∀ p ∈ rest, p.1 ≠ dx) (hx : x ≠ dx)
    (B : Below A₀ base outer h₀) (F : Fr h₀ L s.heap m) (X : (KA w.params).In h₀) (V : VSet w h₀)
    (N : News h₀ L s.heap ((x, instObj 852 dx) :: (dx, dictOf (self8 w.params t1 t2 t3 t4 t5 t6 t7 t8 (.str c u) (.int cu tc) (.int li tl) (.int lb tb) bra ket pv (.int p2 tp2)) 8) :: rest))
    (T : Top p loose mean mg mb h₀) (hk : cs.kind = .function) (hd : dp + 260 < recursionLimit) (hu : un + 2600 < cLine)
    (hret : ∀ h' tk' c' u' cu' tc' li' tl' bra' ket' rv, Fr h₀ L h' m → News h₀ L h' ((x, instObj 852 dx) :: (dx, dictOf (self8 w.params t1 t2 t3 t4 t5 t6 t7 t8 (.str c' u') (.int cu' tc') (.int li' tl') (.int lb tb) bra' ket' pv (.int p2 tp2)) 8) :: rest) → c' = cutO c c.length res → li' = c'.length → Q rv { s with heap := h', toks := tk' }) :
    wpAny (model prog0 w) (ktrTop dp un gd cn cs L a ccd cl outer) (call (.ref 251) [.ref x]) Q E s := by
  have hcl := cutO_len c res (fun n e => by have := hn n e; omega)
  rw [← hcu] at FD
  have hfill : PySem.Challenge.rw_ak0021_01.name = PySem.Challenge.rw_ak0021_01.name ∧ KA = KA := by
    k_fill
    exact ⟨rfl, rfl⟩
  clear hfill
  w_on
  dsimp only [self8, ent] at N
  refine wpAny_call ?_
  k_dflt cell_enter
  rename_i g' L' h' FG' F' N' B' X' T'
  have V' := V.keeps FG'.keep
  generalize s.toks + _ = tk0
  have TT' := TT.keeps FG'.keep
  clear TT
  rcases res with _ | n
  · clear hn
    repeat' (first | (k_unfold; (try dsimp only)) | (k_end; wrow_close) | (k_here; (with_reducible show wpAny _ _ (call (Value.ref 140) _ _) _ _ _); refine' find_miss _ _ _ _ _ _ _ _ _ _ _ _ _ _ _ _ _ _ _ _ _ _ _ _ _ _ ?kG ?kTT ?k1 ?k2 ?k3 ?k4 ?koff ?kx ?kB ?kF ?kX ?kV ?kN ?kT ?kk ?kd ?ku ?_; (case kF => k_asm); (case kN => k_asm); (case kB => k_asm); (case kX => k_asm); (case kV => k_asm); (case kT => k_asm); (case koff => assumption); (case kx => assumption); (case kk => first | exact rfl | assumption); (case kG => assumption); (case kTT => assumption); (case k1 => first | (with_reducible rfl) | (with_reducible assumption) | omega); (case k2 => first | (with_reducible rfl) | (with_reducible assumption) | omega); (case k3 => first | (with_reducible rfl) | (with_reducible assumption) | omega); (case k4 => first | (with_reducible rfl) | (with_reducible assumption) | omega); (case kd => first | exact room1 (by with_reducible assumption) rfl | ktr_room); (case ku => first | exact unit1 (by with_reducible assumption) rfl | ktr_units); intro h9 tk9 t9 F9 N9; dsimp only [self8, self6, ent] at N9; (try k_sweep)) | (k_here; (with_reducible show wpAny _ _ (call (Value.ref 140) _ _) _ _ _); refine' find_hit _ _ _ _ _ _ _ _ _ _ _ _ _ _ _ _ _ _ _ _ _ _ _ _ _ _ _ ?kG ?kTT ?k1 ?k2 ?k3 ?k4 ?koff ?kx ?kB ?kF ?kX ?kV ?kN ?kT ?kk ?kd ?ku ?_; (case kF => k_asm); (case kN => k_asm); (case kB => k_asm); (case kX => k_asm); (case kV => k_asm); (case kT => k_asm); (case koff => assumption); (case kx => assumption); (case kk => first | exact rfl | assumption); (case kG => assumption); (case kTT => assumption); (case k1 => first | (with_reducible rfl) | (with_reducible assumption) | omega); (case k2 => first | (with_reducible rfl) | (with_reducible assumption) | omega); (case k3 => first | (with_reducible rfl) | (with_reducible assumption) | omega); (case k4 => first | (with_reducible rfl) | (with_reducible assumption) | omega); (case kd => first | exact room1 (by with_reducible assumption) rfl | ktr_room); (case ku => first | exact unit1 (by with_reducible assumption) rfl | ktr_units); intro h9 tk9 tc9 t9 F9 N9; dsimp only [self8, self6, ent] at N9; (try k_sweep)) | walk1 | (dsimp only; walk1) | (leave1; walk_say "STEP leave1"; try dsimp only) | fail "no step")
    all_goals (refine' hret _ _ _ _ _ _ _ _ _ _ _ (by assumption) (by assumption) ?zE ?zL)
    case zE => rfl
    case zL => exact hli
  · obtain ⟨hn1, hn2⟩ := hn n rfl
    clear hn
    repeat' (first | (k_unfold; (try dsimp only)) | (k_end; wrow_close) | (k_here; (with_reducible show wpAny _ _ (call (Value.ref 140) _ _) _ _ _); refine' find_miss _ _ _ _ _ _ _ _ _ _ _ _ _ _ _ _ _ _ _ _ _ _ _ _ _ _ ?kG ?kTT ?k1 ?k2 ?k3 ?k4 ?koff ?kx ?kB ?kF ?kX ?kV ?kN ?kT ?kk ?kd ?ku ?_; (case kF => k_asm); (case kN => k_asm); (case kB => k_asm); (case kX => k_asm); (case kV => k_asm); (case kT => k_asm); (case koff => assumption); (case kx => assumption); (case kk => first | exact rfl | assumption); (case kG => assumption); (case kTT => assumption); (case k1 => first | (with_reducible rfl) | (with_reducible assumption) | omega); (case k2 => first | (with_reducible rfl) | (with_reducible assumption) | omega); (case k3 => first | (with_reducible rfl) | (with_reducible assumption) | omega); (case k4 => first | (with_reducible rfl) | (with_reducible assumption) | omega); (case kd => first | exact room1 (by with_reducible assumption) rfl | ktr_room); (case ku => first | exact unit1 (by with_reducible assumption) rfl | ktr_units); intro h9 tk9 t9 F9 N9; dsimp only [self8, self6, ent] at N9; (try k_sweep)) | (k_here; (with_reducible show wpAny _ _ (call (Value.ref 140) _ _) _ _ _); refine' find_hit _ _ _ _ _ _ _ _ _ _ _ _ _ _ _ _ _ _ _ _ _ _ _ _ _ _ _ ?kG ?kTT ?k1 ?k2 ?k3 ?k4 ?koff ?kx ?kB ?kF ?kX ?kV ?kN ?kT ?kk ?kd ?ku ?_; (case kF => k_asm); (case kN => k_asm); (case kB => k_asm); (case kX => k_asm); (case kV => k_asm); (case kT => k_asm); (case koff => assumption); (case kx => assumption); (case kk => first | exact rfl | assumption); (case kG => assumption); (case kTT => assumption); (case k1 => first | (with_reducible rfl) | (with_reducible assumption) | omega); (case k2 => first | (with_reducible rfl) | (with_reducible assumption) | omega); (case k3 => first | (with_reducible rfl) | (with_reducible assumption) | omega); (case k4 => first | (with_reducible rfl) | (with_reducible assumption) | omega); (case kd => first | exact room1 (by with_reducible assumption) rfl | ktr_room); (case ku => first | exact unit1 (by with_reducible assumption) rfl | ktr_units); intro h9 tk9 tc9 t9 F9 N9; dsimp only [self8, self6, ent] at N9; (try k_sweep)) | walk1 | (dsimp only; walk1) | (leave1; walk_say "STEP leave1"; try dsimp only) | fail "no step")
    refine' slice_d _ _ _ _ _ _ _ _ _ _ _ _ _ _ _ _ _ _ _ _ _ _ _ _ ?k1 ?k2 ?k3 ?k4 ?k5 ?k6 ?koff ?kx ?kB ?kF ?kX ?kV ?kN ?kT ?kk ?kd ?ku ?_
    case kF => k_asm
    case kN => k_asm
    case kB => k_asm
    case kX => k_asm
    case kV => k_asm
    case kT => k_asm
    case koff => assumption
    case kx => assumption
    case kk => first | exact rfl | assumption
    case k1 => omega
    case k2 => omega
    case k3 => omega
    case k4 => omega
    case k5 => omega
    case k6 => omega
    case kd => ktr_room
    case ku => ktr_units
    intro h9 tk9 c9 u9 li9 tl9 ket9 F9 N9 e9 e99
    dsimp only [self8, ent] at N9
    (try k_sweep)
    repeat' (first | (k_unfold; (try dsimp only)) | (k_end; wrow_close) | (k_here; (with_reducible show wpAny _ _ (call (Value.ref 140) _ _) _ _ _); refine' find_miss _ _ _ _ _ _ _ _ _ _ _ _ _ _ _ _ _ _ _ _ _ _ _ _ _ _ ?kG ?kTT ?k1 ?k2 ?k3 ?k4 ?koff ?kx ?kB ?kF ?kX ?kV ?kN ?kT ?kk ?kd ?ku ?_; (case kF => k_asm); (case kN => k_asm); (case kB => k_asm); (case kX => k_asm); (case kV => k_asm); (case kT => k_asm); (case koff => assumption); (case kx => assumption); (case kk => first | exact rfl | assumption); (case kG => assumption); (case kTT => assumption); (case k1 => first | (with_reducible rfl) | (with_reducible assumption) | omega); (case k2 => first | (with_reducible rfl) | (with_reducible assumption) | omega); (case k3 => first | (with_reducible rfl) | (with_reducible assumption) | omega); (case k4 => first | (with_reducible rfl) | (with_reducible assumption) | omega); (case kd => first | exact room1 (by with_reducible assumption) rfl | ktr_room); (case ku => first | exact unit1 (by with_reducible assumption) rfl | ktr_units); intro h9 tk9 t9 F9 N9; dsimp only [self8, self6, ent] at N9; (try k_sweep)) | (k_here; (with_reducible show wpAny _ _ (call (Value.ref 140) _ _) _ _ _); refine' find_hit _ _ _ _ _ _ _ _ _ _ _ _ _ _ _ _ _ _ _ _ _ _ _ _ _ _ _ ?kG ?kTT ?k1 ?k2 ?k3 ?k4 ?koff ?kx ?kB ?kF ?kX ?kV ?kN ?kT ?kk ?kd ?ku ?_; (case kF => k_asm); (case kN => k_asm); (case kB => k_asm); (case kX => k_asm); (case kV => k_asm); (case kT => k_asm); (case koff => assumption); (case kx => assumption); (case kk => first | exact rfl | assumption); (case kG => assumption); (case kTT => assumption); (case k1 => first | (with_reducible rfl) | (with_reducible assumption) | omega); (case k2 => first | (with_reducible rfl) | (with_reducible assumption) | omega); (case k3 => first | (with_reducible rfl) | (with_reducible assumption) | omega); (case k4 => first | (with_reducible rfl) | (with_reducible assumption) | omega); (case kd => first | exact room1 (by with_reducible assumption) rfl | ktr_room); (case ku => first | exact unit1 (by with_reducible assumption) rfl | ktr_units); intro h9 tk9 tc9 t9 F9 N9; dsimp only [self8, self6, ent] at N9; (try k_sweep)) | walk1 | (dsimp only; walk1) | (leave1; walk_say "STEP leave1"; try dsimp only) | fail "no step")
    all_goals (refine' hret _ _ _ _ _ _ _ _ _ _ _ (by assumption) (by assumption) ?zE ?zL)
    case zE => (show _ = dl c _ _); rw [← hcu]; assumption
    case zL => (have e8 : c9 = cutO c c.length (some n) := (by (show _ = dl c _ _); rw [← hcu]; assumption)); rw [e8, hcl]; (show _ = _ - ((n : Nat) : Int)); omega
theorem r_adj (x dx : Addr) (c : Str) (u : Tok) (cu li lb p2 : Int) (bra ket pv : Value) (tc tl tb tp2 : Tok) (t1 t2 t3 t4 t5 t6 t7 t8 : Tok) (rest : List (Addr × Obj))
    (b : Nat) (rows : List AmRow) (res : Option Nat) (hn : ∀ n, res = some n → 0 < n ∧ (n : Int) ≤ c.length - lb) (FD : Finds rows c c.length lb res) (TT : Tab w.params h₀ 342 b rows)
    (hcu : cu = c.length) (hli : li = c.length) (hlc : lb ≤ cu) (hlb : 0 ≤ lb) (hlen : (c.length : Int) ≤ 1000)
    (hoff : ∀ p ∈ rest, p.1 ≠ dx) (hx : x ≠ dx)
    (B : Below A₀ base outer h₀) (F : Fr h₀ L s.heap m) (X : (KA w.params).In h₀) (V : VSet w h₀)
    (N : News h₀ L s.heap ((x, instObj 852 dx) :: (dx, dictOf (self8 w.params t1 t2 t3 t4 t5 t6 t7 t8 (.str c u) (.int cu tc) (.int li tl) (.int lb tb) bra ket pv (.int p2 tp2)) 8) :: rest))
    (T : Top p loose mean mg mb h₀) (hk : cs.kind = .function) (hd : dp + 260 < recursionLimit) (hu : un + 2600 < cLine)
    (hret : ∀ h' tk' c' u' cu' tc' li' tl' bra' ket' rv, Fr h₀ L h' m → News h₀ L h' ((x, instObj 852 dx) :: (dx, dictOf (self8 w.params t1 t2 t3 t4 t5 t6 t7 t8 (.str c' u') (.int cu' tc') (.int li' tl') (.int lb tb) bra' ket' pv (.int p2 tp2)) 8) :: rest) → c' = cutO c c.length res → li' = c'.length → Q rv { s with heap := h', toks := tk' }) :
    wpAny (model prog0 w) (ktrTop dp un gd cn cs L a ccd cl outer) (call (.ref 244) [.ref x]) Q E s := by
  have hcl := cutO_len c res (fun n e => by have := hn n e; omega)
  rw [← hcu] at FD
  have hfill : PySem.Challenge.rw_ak0021_01.name = PySem.Challenge.rw_ak0021_01.name ∧ KA = KA := by
    k_fill
    exact ⟨rfl, rfl⟩
  clear hfill
  w_on
  dsimp only [self8, ent] at N
  refine wpAny_call ?_
  k_dflt cell_enter
  rename_i g' L' h' FG' F' N' B' X' T'
  have V' := V.keeps FG'.keep
  generalize s.toks + _ = tk0
  have TT' := TT.keeps FG'.keep
  clear TT
  rcases res with _ | n
  · clear hn
    repeat' (first | (k_unfold; (try dsimp only)) | (k_end; wrow_close) | (k_here; (with_reducible show wpAny _ _ (call (Value.ref 140) _ _) _ _ _); refine' find_miss _ _ _ _ _ _ _ _ _ _ _ _ _ _ _ _ _ _ _ _ _ _ _ _ _ _ ?kG ?kTT ?k1 ?k2 ?k3 ?k4 ?koff ?kx ?kB ?kF ?kX ?kV ?kN ?kT ?kk ?kd ?ku ?_; (case kF => k_asm); (case kN => k_asm); (case kB => k_asm); (case kX => k_asm); (case kV => k_asm); (case kT => k_asm); (case koff => assumption); (case kx => assumption); (case kk => first | exact rfl | assumption); (case kG => assumption); (case kTT => assumption); (case k1 => first | (with_reducible rfl) | (with_reducible assumption) | omega); (case k2 => first | (with_reducible rfl) | (with_reducible assumption) | omega); (case k3 => first | (with_reducible rfl) | (with_reducible assumption) | omega); (case k4 => first | (with_reducible rfl) | (with_reducible assumption) | omega); (case kd => first | exact room1 (by with_reducible assumption) rfl | ktr_room); (case ku => first | exact unit1 (by with_reducible assumption) rfl | ktr_units); intro h9 tk9 t9 F9 N9; dsimp only [self8, self6, ent] at N9; (try k_sweep)) | (k_here; (with_reducible show wpAny _ _ (call (Value.ref 140) _ _) _ _ _); refine' find_hit _ _ _ _ _ _ _ _ _ _ _ _ _ _ _ _ _ _ _ _ _ _ _ _ _ _ _ ?kG ?kTT ?k1 ?k2 ?k3 ?k4 ?koff ?kx ?kB ?kF ?kX ?kV ?kN ?kT ?kk ?kd ?ku ?_; (case kF => k_asm); (case kN => k_asm); (case kB => k_asm); (case kX => k_asm); (case kV => k_asm); (case kT => k_asm); (case koff => assumption); (case kx => assumption); (case kk => first | exact rfl | assumption); (case kG => assumption); (case kTT => assumption); (case k1 => first | (with_reducible rfl) | (with_reducible assumption) | omega); (case k2 => first | (with_reducible rfl) | (with_reducible assumption) | omega); (case k3 => first | (with_reducible rfl) | (with_reducible assumption) | omega); (case k4 => first | (with_reducible rfl) | (with_reducible assumption) | omega); (case kd => first | exact room1 (by with_reducible assumption) rfl | ktr_room); (case ku => first | exact unit1 (by with_reducible assumption) rfl | ktr_units); intro h9 tk9 tc9 t9 F9 N9; dsimp only [self8, self6, ent] at N9; (try k_sweep)) | walk1 | (dsimp only; walk1) | (leave1; walk_say "STEP leave1"; try dsimp only) | fail "no step")
    all_goals (refine' hret _ _ _ _ _ _ _ _ _ _ _ (by assumption) (by assumption) ?zE ?zL)
    case zE => rfl
    case zL => exact hli
  · obtain ⟨hn1, hn2⟩ := hn n rfl
    clear hn
    repeat' (first | (k_unfold; (try dsimp only)) | (k_end; wrow_close) | (k_here; (with_reducible show wpAny _ _ (call (Value.ref 140) _ _) _ _ _); refine' find_miss _ _ _ _ _ _ _ _ _ _ _ _ _ _ _ _ _ _ _ _ _ _ _ _ _ _ ?kG ?kTT ?k1 ?k2 ?k3 ?k4 ?koff ?kx ?kB ?kF ?kX ?kV ?kN ?kT ?kk ?kd ?ku ?_; (case kF => k_asm); (case kN => k_asm); (case kB => k_asm); (case kX => k_asm); (case kV => k_asm); (case kT => k_asm); (case koff => assumption); (case kx => assumption); (case kk => first | exact rfl | assumption); (case kG => assumption); (case kTT => assumption); (case k1 => first | (with_reducible rfl) | (with_reducible assumption) | omega); (case k2 => first | (with_reducible rfl) | (with_reducible assumption) | omega); (case k3 => first | (with_reducible rfl) | (with_reducible assumption) | omega); (case k4 => first | (with_reducible rfl) | (with_reducible assumption) | omega); (case kd => first | exact room1 (by with_reducible assumption) rfl | ktr_room); (case ku => first | exact unit1 (by with_reducible assumption) rfl | ktr_units); intro h9 tk9 t9 F9 N9; dsimp only [self8, self6, ent] at N9; (try k_sweep)) | (k_here; (with_reducible show wpAny _ _ (call (Value.ref 140) _ _) _ _ _); refine' find_hit _ _ _ _ _ _ _ _ _ _ _ _ _ _ _ _ _ _ _ _ _ _ _ _ _ _ _ ?kG ?kTT ?k1 ?k2 ?k3 ?k4 ?koff ?kx ?kB ?kF ?kX ?kV ?kN ?kT ?kk ?kd ?ku ?_; (case kF => k_asm); (case kN => k_asm); (case kB => k_asm); (case kX => k_asm); (case kV => k_asm); (case kT => k_asm); (case koff => assumption); (case kx => assumption); (case kk => first | exact rfl | assumption); (case kG => assumption); (case kTT => assumption); (case k1 => first | (with_reducible rfl) | (with_reducible assumption) | omega); (case k2 => first | (with_reducible rfl) | (with_reducible assumption) | omega); (case k3 => first | (with_reducible rfl) | (with_reducible assumption) | omega); (case k4 => first | (with_reducible rfl) | (with_reducible assumption) | omega); (case kd => first | exact room1 (by with_reducible assumption) rfl | ktr_room); (case ku => first | exact unit1 (by with_reducible assumption) rfl | ktr_units); intro h9 tk9 tc9 t9 F9 N9; dsimp only [self8, self6, ent] at N9; (try k_sweep)) | walk1 | (dsimp only; walk1) | (leave1; walk_say "STEP leave1"; try dsimp only) | fail "no step")
    refine' slice_d _ _ _ _ _ _ _ _ _ _ _ _ _ _ _ _ _ _ _ _ _ _ _ _ ?k1 ?k2 ?k3 ?k4 ?k5 ?k6 ?koff ?kx ?kB ?kF ?kX ?kV ?kN ?kT ?kk ?kd ?ku ?_
    case kF => k_asm
    case kN => k_asm
    case kB => k_asm
    case kX => k_asm
    case kV => k_asm
    case kT => k_asm
    case koff => assumption
    case kx => assumption
    case kk => first | exact rfl | assumption
    case k1 => omega
    case k2 => omega
    case k3 => omega
    case k4 => omega
    case k5 => omega
    case k6 => omega
    case kd => ktr_room
    case ku => ktr_units
    intro h9 tk9 c9 u9 li9 tl9 ket9 F9 N9 e9 e99
    dsimp only [self8, ent] at N9
    (try k_sweep)
    repeat' (first | (k_unfold; (try dsimp only)) | (k_end; wrow_close) | (k_here; (with_reducible show wpAny _ _ (call (Value.ref 140) _ _) _ _ _); refine' find_miss _ _ _ _ _ _ _ _ _ _ _ _ _ _ _ _ _ _ _ _ _ _ _ _ _ _ ?kG ?kTT ?k1 ?k2 ?k3 ?k4 ?koff ?kx ?kB ?kF ?kX ?kV ?kN ?kT ?kk ?kd ?ku ?_; (case kF => k_asm); (case kN => k_asm); (case kB => k_asm); (case kX => k_asm); (case kV => k_asm); (case kT => k_asm); (case koff => assumption); (case kx => assumption); (case kk => first | exact rfl | assumption); (case kG => assumption); (case kTT => assumption); (case k1 => first | (with_reducible rfl) | (with_reducible assumption) | omega); (case k2 => first | (with_reducible rfl) | (with_reducible assumption) | omega); (case k3 => first | (with_reducible rfl) | (with_reducible assumption) | omega); (case k4 => first | (with_reducible rfl) | (with_reducible assumption) | omega); (case kd => first | exact room1 (by with_reducible assumption) rfl | ktr_room); (case ku => first | exact unit1 (by with_reducible assumption) rfl | ktr_units); intro h9 tk9 t9 F9 N9; dsimp only [self8, self6, ent] at N9; (try k_sweep)) | (k_here; (with_reducible show wpAny _ _ (call (Value.ref 140) _ _) _ _ _); refine' find_hit _ _ _ _ _ _ _ _ _ _ _ _ _ _ _ _ _ _ _ _ _ _ _ _ _ _ _ ?kG ?kTT ?k1 ?k2 ?k3 ?k4 ?koff ?kx ?kB ?kF ?kX ?kV ?kN ?kT ?kk ?kd ?ku ?_; (case kF => k_asm); (case kN => k_asm); (case kB => k_asm); (case kX => k_asm); (case kV => k_asm); (case kT => k_asm); (case koff => assumption); (case kx => assumption); (case kk => first | exact rfl | assumption); (case kG => assumption); (case kTT => assumption); (case k1 => first | (with_reducible rfl) | (with_reducible assumption) | omega); (case k2 => first | (with_reducible rfl) | (with_reducible assumption) | omega); (case k3 => first | (with_reducible rfl) | (with_reducible assumption) | omega); (case k4 => first | (with_reducible rfl) | (with_reducible assumption) | omega); (case kd => first | exact room1 (by with_reducible assumption) rfl | ktr_room); (case ku => first | exact unit1 (by with_reducible assumption) rfl | ktr_units); intro h9 tk9 tc9 t9 F9 N9; dsimp only [self8, self6, ent] at N9; (try k_sweep)) | walk1 | (dsimp only; walk1) | (leave1; walk_say "STEP leave1"; try dsimp only) | fail "no step")
    all_goals (refine' hret _ _ _ _ _ _ _ _ _ _ _ (by assumption) (by assumption) ?zE ?zL)
    case zE => (show _ = dl c _ _); rw [← hcu]; assumption
    case zL => (have e8 : c9 = cutO c c.length (some n) := (by (show _ = dl c _ _); rw [← hcu]; assumption)); rw [e8, hcl]; (show _ = _ - ((n : Nat) : Int)); omega
theorem r_noun (x dx : Addr) (c : Str) (u : Tok) (cu li lb p2 : Int) (bra ket pv : Value) (tc tl tb tp2 : Tok) (t1 t2 t3 t4 t5 t6 t7 t8 : Tok) (rest : List (Addr × Obj))
    (b : Nat) (rows : List AmRow) (res : Option Nat) (hn : ∀ n, res = some n → 0 < n ∧ (n : Int) ≤ c.length - lb) (FD : Finds rows c c.length lb res) (TT : Tab w.params h₀ 677 b rows)
    (hcu : cu = c.length) (hli : li = c.length) (hlc : lb ≤ cu) (hlb : 0 ≤ lb) (hlen : (c.length : Int) ≤ 1000)
    (hoff : ∀ p ∈ rest, p.1 ≠ dx) (hx : x ≠ dx)
    (B : Below A₀ base outer h₀) (F : Fr h₀ L s.heap m) (X : (KA w.params).In h₀) (V : VSet w h₀)
    (N : News h₀ L s.heap ((x, instObj 852 dx) :: (dx, dictOf (self8 w.params t1 t2 t3 t4 t5 t6 t7 t8 (.str c u) (.int cu tc) (.int li tl) (.int lb tb) bra ket pv (.int p2 tp2)) 8) :: rest))
    (T : Top p loose mean mg mb h₀) (hk : cs.kind = .function) (hd : dp + 260 < recursionLimit) (hu : un + 2600 < cLine)
    (hret : ∀ h' tk' c' u' cu' tc' li' tl' bra' ket' rv, Fr h₀ L h' m → News h₀ L h' ((x, instObj 852 dx) :: (dx, dictOf (self8 w.params t1 t2 t3 t4 t5 t6 t7 t8 (.str c' u') (.int cu' tc') (.int li' tl') (.int lb tb) bra' ket' pv (.int p2 tp2)) 8) :: rest) → c' = cutO c c.length res → li' = c'.length → Q rv { s with heap := h', toks := tk' }) :
    wpAny (model prog0 w) (ktrTop dp un gd cn cs L a ccd cl outer) (call (.ref 258) [.ref x]) Q E s := by
  have hcl := cutO_len c res (fun n e => by have := hn n e; omega)
  rw [← hcu] at FD
  have hfill : PySem.Challenge.rw_ak0021_01.name = PySem.Challenge.rw_ak0021_01.name ∧ KA = KA := by
    k_fill
    exact ⟨rfl, rfl⟩
  clear hfill
  w_on
  dsimp only [self8, ent] at N
  refine wpAny_call ?_
  k_dflt cell_enter
  rename_i g' L' h' FG' F' N' B' X' T'
  have V' := V.keeps FG'.keep
  generalize s.toks + _ = tk0
  have TT' := TT.keeps FG'.keep
  clear TT
  rcases res with _ | n
  · clear hn
    repeat' (first | (k_unfold; (try dsimp only)) | (k_end; wrow_close) | (k_here; (with_reducible show wpAny _ _ (call (Value.ref 140) _ _) _ _ _); refine' find_miss _ _ _ _ _ _ _ _ _ _ _ _ _ _ _ _ _ _ _ _ _ _ _ _ _ _ ?kG ?kTT ?k1 ?k2 ?k3 ?k4 ?koff ?kx ?kB ?kF ?kX ?kV ?kN ?kT ?kk ?kd ?ku ?_; (case kF => k_asm); (case kN => k_asm); (case kB => k_asm); (case kX => k_asm); (case kV => k_asm); (case kT => k_asm); (case koff => assumption); (case kx => assumption); (case kk => first | exact rfl | assumption); (case kG => assumption); (case kTT => assumption); (case k1 => first | (with_reducible rfl) | (with_reducible assumption) | omega); (case k2 => first | (with_reducible rfl) | (with_reducible assumption) | omega); (case k3 => first | (with_reducible rfl) | (with_reducible assumption) | omega); (case k4 => first | (with_reducible rfl) | (with_reducible assumption) | omega); (case kd => first | exact room1 (by with_reducible assumption) rfl | ktr_room); (case ku => first | exact unit1 (by with_reducible assumption) rfl | ktr_units); intro h9 tk9 t9 F9 N9; dsimp only [self8, self6, ent] at N9; (try k_sweep)) | (k_here; (with_reducible show wpAny _ _ (call (Value.ref 140) _ _) _ _ _); refine' find_hit _ _ _ _ _ _ _ _ _ _ _ _ _ _ _ _ _ _ _ _ _ _ _ _ _ _ _ ?kG ?kTT ?k1 ?k2 ?k3 ?k4 ?koff ?kx ?kB ?kF ?kX ?kV ?kN ?kT ?kk ?kd ?ku ?_; (case kF => k_asm); (case kN => k_asm); (case kB => k_asm); (case kX => k_asm); (case kV => k_asm); (case kT => k_asm); (case koff => assumption); (case kx => assumption); (case kk => first | exact rfl | assumption); (case kG => assumption); (case kTT => assumption); (case k1 => first | (with_reducible rfl) | (with_reducible assumption) | omega); (case k2 => first | (with_reducible rfl) | (with_reducible assumption) | omega); (case k3 => first | (with_reducible rfl) | (with_reducible assumption) | omega); (case k4 => first | (with_reducible rfl) | (with_reducible assumption) | omega); (case kd => first | exact room1 (by with_reducible assumption) rfl | ktr_room); (case ku => first | exact unit1 (by with_reducible assumption) rfl | ktr_units); intro h9 tk9 tc9 t9 F9 N9; dsimp only [self8, self6, ent] at N9; (try k_sweep)) | walk1 | (dsimp only; walk1) | (leave1; walk_say "STEP leave1"; try dsimp only) | fail "no step")
    all_goals (refine' hret _ _ _ _ _ _ _ _ _ _ _ (by assumption) (by assumption) ?zE ?zL)
    case zE => rfl
    case zL => exact hli
  · obtain ⟨hn1, hn2⟩ := hn n rfl
    clear hn
    repeat' (first | (k_unfold; (try dsimp only)) | (k_end; wrow_close) | (k_here; (with_reducible show wpAny _ _ (call (Value.ref 140) _ _) _ _ _); refine' find_miss _ _ _ _ _ _ _ _ _ _ _ _ _ _ _ _ _ _ _ _ _ _ _ _ _ _ ?kG ?kTT ?k1 ?k2 ?k3 ?k4 ?koff ?kx ?kB ?kF ?kX ?kV ?kN ?kT ?kk ?kd ?ku ?_; (case kF => k_asm); (case kN => k_asm); (case kB => k_asm); (case kX => k_asm); (case kV => k_asm); (case kT => k_asm); (case koff => assumption); (case kx => assumption); (case kk => first | exact rfl | assumption); (case kG => assumption); (case kTT => assumption); (case k1 => first | (with_reducible rfl) | (with_reducible assumption) | omega); (case k2 => first | (with_reducible rfl) | (with_reducible assumption) | omega); (case k3 => first | (with_reducible rfl) | (with_reducible assumption) | omega); (case k4 => first | (with_reducible rfl) | (with_reducible assumption) | omega); (case kd => first | exact room1 (by with_reducible assumption) rfl | ktr_room); (case ku => first | exact unit1 (by with_reducible assumption) rfl | ktr_units); intro h9 tk9 t9 F9 N9; dsimp only [self8, self6, ent] at N9; (try k_sweep)) | (k_here; (with_reducible show wpAny _ _ (call (Value.ref 140) _ _) _ _ _); refine' find_hit _ _ _ _ _ _ _ _ _ _ _ _ _ _ _ _ _ _ _ _ _ _ _ _ _ _ _ ?kG ?kTT ?k1 ?k2 ?k3 ?k4 ?koff ?kx ?kB ?kF ?kX ?kV ?kN ?kT ?kk ?kd ?ku ?_; (case kF => k_asm); (case kN => k_asm); (case kB => k_asm); (case kX => k_asm); (case kV => k_asm); (case kT => k_asm); (case koff => assumption); (case kx => assumption); (case kk => first | exact rfl | assumption); (case kG => assumption); (case kTT => assumption); (case k1 => first | (with_reducible rfl) | (with_reducible assumption) | omega); (case k2 => first | (with_reducible rfl) | (with_reducible assumption) | omega); (case k3 => first | (with_reducible rfl) | (with_reducible assumption) | omega); (case k4 => first | (with_reducible rfl) | (with_reducible assumption) | omega); (case kd => first | exact room1 (by with_reducible assumption) rfl | ktr_room); (case ku => first | exact unit1 (by with_reducible assumption) rfl | ktr_units); intro h9 tk9 tc9 t9 F9 N9; dsimp only [self8, self6, ent] at N9; (try k_sweep)) | walk1 | (dsimp only; walk1) | (leave1; walk_say "STEP leave1"; try dsimp only) | fail "no step")
    refine' slice_d _ _ _ _ _ _ _ _ _ _ _ _ _ _ _ _ _ _ _ _ _ _ _ _ ?k1 ?k2 ?k3 ?k4 ?k5 ?k6 ?koff ?kx ?kB ?kF ?kX ?kV ?kN ?kT ?kk ?kd ?ku ?_
    case kF => k_asm
    case kN => k_asm
    case kB => k_asm
    case kX => k_asm
    case kV => k_asm
    case kT => k_asm
    case koff => assumption
    case kx => assumption
    case kk => first | exact rfl | assumption
    case k1 => omega
    case k2 => omega
    case k3 => omega
    case k4 => omega
    case k5 => omega
    case k6 => omega
    case kd => ktr_room
    case ku => ktr_units
    intro h9 tk9 c9 u9 li9 tl9 ket9 F9 N9 e9 e99
    dsimp only [self8, ent] at N9
    (try k_sweep)
    repeat' (first | (k_unfold; (try dsimp only)) | (k_end; wrow_close) | (k_here; (with_reducible show wpAny _ _ (call (Value.ref 140) _ _) _ _ _); refine' find_miss _ _ _ _ _ _ _ _ _ _ _ _ _ _ _ _ _ _ _ _ _ _ _ _ _ _ ?kG ?kTT ?k1 ?k2 ?k3 ?k4 ?koff ?kx ?kB ?kF ?kX ?kV ?kN ?kT ?kk ?kd ?ku ?_; (case kF => k_asm); (case kN => k_asm); (case kB => k_asm); (case kX => k_asm); (case kV => k_asm); (case kT => k_asm); (case koff => assumption); (case kx => assumption); (case kk => first | exact rfl | assumption); (case kG => assumption); (case kTT => assumption); (case k1 => first | (with_reducible rfl) | (with_reducible assumption) | omega); (case k2 => first | (with_reducible rfl) | (with_reducible assumption) | omega); (case k3 => first | (with_reducible rfl) | (with_reducible assumption) | omega); (case k4 => first | (with_reducible rfl) | (with_reducible assumption) | omega); (case kd => first | exact room1 (by with_reducible assumption) rfl | ktr_room); (case ku => first | exact unit1 (by with_reducible assumption) rfl | ktr_units); intro h9 tk9 t9 F9 N9; dsimp only [self8, self6, ent] at N9; (try k_sweep)) | (k_here; (with_reducible show wpAny _ _ (call (Value.ref 140) _ _) _ _ _); refine' find_hit _ _ _ _ _ _ _ _ _ _ _ _ _ _ _ _ _ _ _ _ _ _ _ _ _ _ _ ?kG ?kTT ?k1 ?k2 ?k3 ?k4 ?koff ?kx ?kB ?kF ?kX ?kV ?kN ?kT ?kk ?kd ?ku ?_; (case kF => k_asm); (case kN => k_asm); (case kB => k_asm); (case kX => k_asm); (case kV => k_asm); (case kT => k_asm); (case koff => assumption); (case kx => assumption); (case kk => first | exact rfl | assumption); (case kG => assumption); (case kTT => assumption); (case k1 => first | (with_reducible rfl) | (with_reducible assumption) | omega); (case k2 => first | (with_reducible rfl) | (with_reducible assumption) | omega); (case k3 => first | (with_reducible rfl) | (with_reducible assumption) | omega); (case k4 => first | (with_reducible rfl) | (with_reducible assumption) | omega); (case kd => first | exact room1 (by with_reducible assumption) rfl | ktr_room); (case ku => first | exact unit1 (by with_reducible assumption) rfl | ktr_units); intro h9 tk9 tc9 t9 F9 N9; dsimp only [self8, self6, ent] at N9; (try k_sweep)) | walk1 | (dsimp only; walk1) | (leave1; walk_say "STEP leave1"; try dsimp only) | fail "no step")
    all_goals (refine' hret _ _ _ _ _ _ _ _ _ _ _ (by assumption) (by assumption) ?zE ?zL)
    case zE => (show _ = dl c _ _); rw [← hcu]; assumption
    case zL => (have e8 : c9 = cutO c c.length (some n) := (by (show _ = dl c _ _); rw [← hcu]; assumption)); rw [e8, hcl]; (show _ = _ - ((n : Nat) : Int)); omega
end
end Mine
end
section
open PySem PySem.W PyProof.Rows PySem.Calls
set_option maxRecDepth 100000
set_option maxHeartbeats 4000000
set_option linter.unusedVariables false
namespace Mine
/-- where the word's regions begin -/
structure Marks (c : Str) (k1 k2 k3 k4 : Nat) : Prop where
  G1 : OutAt c 0 c.length k1
  G2 : InAt c (k1 + 1) c.length k2
  G3 : OutAt c (k2 + 1) c.length k3
  G4 : InAt c (k3 + 1) c.length k4
/-- a step of the stemmer: the search's answer and how far it may reach -/
structure Cuts (rows : List AmRow) (c : Str) (lb : Int) (res : Option Nat) : Prop where
  fd : Finds rows c c.length lb res
  ok : ∀ n, res = some n → 0 < n ∧ (n : Int) ≤ c.length - lb
noncomputable abbrev cutL (c : Str) (res : Option Nat) : Str := cutO c c.length res
structure Tabs (P : Params) (h : Heap) : Prop where
  a0 : Tab P h 342 273 tab0
  a1 : Tab P h 556 343 tab1
  a2 : Tab P h 677 557 tab2
  a3 : Tab P h 849 678 tab3
theorem Tabs.keeps {P : Params} {h h' : Heap} (T : Tabs P h) (k : ∀ b o, h.get? b = some o → h'.get? b = some o) : Tabs P h' := ⟨T.a0.keeps k, T.a1.keeps k, T.a2.keeps k, T.a3.keeps k⟩
/-- what the stemmer does to a word -/
structure Stems (c c' : Str) : Prop where
  ex : ∃ k1 k2 k3 k4 r3 r1 r0 r2, Marks c k1 k2 k3 k4 ∧ Cuts tab3 c (k1 + 1) r3 ∧ (∀ n, r3 = some n → (k4 : Int) + 1 ≤ c.length - n) ∧
    Cuts tab1 (cutL c r3) (k1 + 1) r1 ∧ Cuts tab0 (cutL (cutL c r3) r1) (k1 + 1) r0 ∧ Cuts tab2 (cutL (cutL (cutL c r3) r1) r0) (k1 + 1) r2 ∧ c' = cutL (cutL (cutL (cutL c r3) r1) r0) r2
local macro_rules | `(tactic| k_all) => `(tactic| assumption)
section
variable {w : World} {p : Program} {loose : List Str} {mean : ExcName → Option Value} {mg mb : Str → Option Value} {dp un : Nat} {gd : Option (List Code)} {cn : Str} {cs : Scope} {a : Addr} {ccd : Value} {cl : List (Str × Addr)} {outer : List Env} {A₀ : Around} {base h₀ : Heap} {L : Addr} {m : Str → Option Value} {s : Shared} {Q E : Value → Shared → Prop}
theorem stem8 (x dx : Addr) (c c' : Str) (u : Tok) (li : Int) (lb : Int) (bra ket pv p2 : Value) (tc tl tb : Tok) (t1 t2 t3 t4 t5 t6 t7 t8 : Tok) (rest : List (Addr × Obj))
    (hS : Stems c c') (TT : Tabs w.params h₀) (hli : li = c.length) (hlen : (c.length : Int) ≤ 1000)
    (hoff : ∀ p ∈ rest, p.1 ≠ dx) (hx : x ≠ dx)
    (B : Below A₀ base outer h₀) (F : Fr h₀ L s.heap m) (X : (KA w.params).In h₀) (V : VSet w h₀)
    (N : News h₀ L s.heap ((x, instObj 852 dx) :: (dx, dictOf (self8 w.params t1 t2 t3 t4 t5 t6 t7 t8 (.str c u) (.int 0 tc) (.int li tl) (.int lb tb) bra ket pv p2) 8) :: rest))
    (T : Top p loose mean mg mb h₀) (hk : cs.kind = .function) (hd : dp + 360 < recursionLimit) (hu : un + 4000 < cLine)
    (hret : ∀ h' tk' u' cur' lim' lb' bra' ket' pv' p2' rv, Fr h₀ L h' m → News h₀ L h' ((x, instObj 852 dx) :: (dx, dictOf (self8 w.params t1 t2 t3 t4 t5 t6 t7 t8 (.str c' u') cur' lim' lb' bra' ket' pv' p2') 8) :: rest) → Q rv { s with heap := h', toks := tk' }) :
    wpAny (model prog0 w) (ktrTop dp un gd cn cs L a ccd cl outer) (call (.ref 272) [.ref x]) Q E s := by
  obtain ⟨k1, k2, k3, k4, r3, r1, r0, r2, ⟨G1, G2, G3, G4⟩, ⟨fd3, ok3⟩, ok3', ⟨fd1, ok1⟩, ⟨fd0, ok0⟩, ⟨fd2, ok2⟩, rfl⟩ := hS
  have hk1 := G1.h2
  have hk2 := G2.h1
  have hk3 := G3.h1
  have hk4 := G4.h1
  have hk5 := G4.h2
  have ok3b : ∀ n, r3 = some n → 0 < n ∧ (n : Int) ≤ c.length - ((k1 : Int) + 1) ∧ (k4 : Int) + 1 ≤ c.length - n := fun n e => ⟨(ok3 n e).1, (ok3 n e).2, ok3' n e⟩
  have hc0 := cutO_len c r3 (fun n e => by have := ok3 n e; omega)
  have hc1 := cutO_len (cutL c r3) r1 (fun n e => by have := ok1 n e; omega)
  have hc2 := cutO_len (cutL (cutL c r3) r1) r0 (fun n e => by have := ok0 n e; omega)
  have hb3 : ((r3.getD 0 : Nat) : Int) ≤ c.length - ((k1 : Int) + 1) := by
    cases r3 with
    | none => show ((0 : Nat) : Int) ≤ _; omega
    | some n => exact (ok3 n rfl).2
  have hb1 : ((r1.getD 0 : Nat) : Int) ≤ (cutL c r3).length - ((k1 : Int) + 1) := by
    cases r1 with
    | none => show ((0 : Nat) : Int) ≤ _; unfold cutL; omega
    | some n => exact (ok1 n rfl).2
  have hb0 : ((r0.getD 0 : Nat) : Int) ≤ (cutL (cutL c r3) r1).length - ((k1 : Int) + 1) := by
    cases r0 with
    | none => show ((0 : Nat) : Int) ≤ _; unfold cutL at *; omega
    | some n => exact (ok0 n rfl).2
  dsimp only [cutL] at fd1 ok1 fd0 ok0 fd2 ok2 hc1 hc2 hb1 hb0
  subst hli
  have hfill : PySem.Challenge.rw_ak0021_01.name = PySem.Challenge.rw_ak0021_01.name ∧ KA = KA := by
    k_fill
    exact ⟨rfl, rfl⟩
  clear hfill
  w_on
  dsimp only [self8, self6, ent] at N
  refine wpAny_call ?_
  k_dflt cell_enter
  rename_i g' L' h' FG' F' N' B' X' T'
  have V' := V.keeps FG'.keep
  generalize s.toks + _ = tk0
  obtain ⟨T0, T1, T2, T3⟩ := TT.keeps FG'.keep
  clear TT
  repeat' (first | (k_unfold; (try dsimp only)) | (k_end; wrow_close) | (k_here; (with_reducible show wpAny _ _ (call (Value.ref 237) _ _) _ _ _); refine' mark6 _ _ _ _ _ _ _ _ _ _ _ _ _ _ _ _ _ _ _ _ _ _ ?kG1 ?kG2 ?kG3 ?kG4 ?kl1 ?kl2 ?koff ?kx ?kB ?kF ?kX ?kV ?kN ?kT ?kk ?kd ?ku ?_; (case kF => k_asm); (case kN => k_asm); (case kB => k_asm); (case kX => k_asm); (case kV => k_asm); (case kT => k_asm); (case koff => assumption); (case kx => assumption); (case kk => first | exact rfl | assumption); (case kG1 => assumption); (case kG2 => assumption); (case kG3 => assumption); (case kG4 => assumption); (case kl1 => first | (with_reducible rfl) | (with_reducible assumption) | omega); (case kl2 => first | (with_reducible rfl) | (with_reducible assumption) | omega); (case kd => first | exact room1 (by with_reducible assumption) rfl | ktr_room); (case ku => first | exact unit1 (by with_reducible assumption) rfl | ktr_units); intro h9 tk9 tc9 u7 u8 u9 u10 F9 N9; dsimp only [self8, self6, ent] at N9; (try k_sweep)) | (k_here; (with_reducible show wpAny _ _ (call (Value.ref 237) _ _) _ _ _); refine' mark8 _ _ _ _ _ _ _ _ _ _ _ _ _ _ _ _ _ _ _ _ _ _ _ _ _ _ ?kG1 ?kG2 ?kG3 ?kG4 ?kl1 ?kl2 ?koff ?kx ?kB ?kF ?kX ?kV ?kN ?kT ?kk ?kd ?ku ?_; (case kF => k_asm); (case kN => k_asm); (case kB => k_asm); (case kX => k_asm); (case kV => k_asm); (case kT => k_asm); (case koff => assumption); (case kx => assumption); (case kk => first | exact rfl | assumption); (case kG1 => assumption); (case kG2 => assumption); (case kG3 => assumption); (case kG4 => assumption); (case kl1 => first | (with_reducible rfl) | (with_reducible assumption) | omega); (case kl2 => first | (with_reducible rfl) | (with_reducible assumption) | omega); (case kd => first | exact room1 (by with_reducible assumption) rfl | ktr_room); (case ku => first | exact unit1 (by with_reducible assumption) rfl | ktr_units); intro h9 tk9 tc9 u7 u8 F9 N9; dsimp only [self8, self6, ent] at N9; (try k_sweep)) | (k_here; (with_reducible show wpAny _ _ (call (Value.ref 258) _ _) _ _ _); refine' r_noun _ _ _ _ _ _ _ _ _ _ _ _ _ _ _ _ _ _ _ _ _ _ _ _ _ _ _ ?kG ?kFD ?kTT ?k1 ?k2 ?k3 ?k4 ?k5 ?koff ?kx ?kB ?kF ?kX ?kV ?kN ?kT ?kk ?kd ?ku ?_; (case kF => k_asm); (case kN => k_asm); (case kB => k_asm); (case kX => k_asm); (case kV => k_asm); (case kT => k_asm); (case koff => assumption); (case kx => assumption); (case kk => first | exact rfl | assumption); (case kG => assumption); (case kFD => assumption); (case kTT => assumption); (case k1 => first | (with_reducible rfl) | (with_reducible assumption) | omega); (case k2 => first | (with_reducible rfl) | (with_reducible assumption) | omega); (case k3 => first | (with_reducible rfl) | (with_reducible assumption) | omega); (case k4 => first | (with_reducible rfl) | (with_reducible assumption) | omega); (case k5 => first | (with_reducible rfl) | (with_reducible assumption) | omega); (case kd => first | exact room1 (by with_reducible assumption) rfl | ktr_room); (case ku => first | exact unit1 (by with_reducible assumption) rfl | ktr_units); intro h9 tk9 c9 u9 cu9 tc9 li9 tl9 bra9 ket9 rv9 F9 N9 e9 e99; subst e9; dsimp only [self8, self6, ent] at N9; (try k_sweep)) | (k_here; (with_reducible show wpAny _ _ (call (Value.ref 244) _ _) _ _ _); refine' r_adj _ _ _ _ _ _ _ _ _ _ _ _ _ _ _ _ _ _ _ _ _ _ _ _ _ _ _ ?kG ?kFD ?kTT ?k1 ?k2 ?k3 ?k4 ?k5 ?koff ?kx ?kB ?kF ?kX ?kV ?kN ?kT ?kk ?kd ?ku ?_; (case kF => k_asm); (case kN => k_asm); (case kB => k_asm); (case kX => k_asm); (case kV => k_asm); (case kT => k_asm); (case koff => assumption); (case kx => assumption); (case kk => first | exact rfl | assumption); (case kG => assumption); (case kFD => assumption); (case kTT => assumption); (case k1 => first | (with_reducible rfl) | (with_reducible assumption) | omega); (case k2 => first | (with_reducible rfl) | (with_reducible assumption) | omega); (case k3 => first | (with_reducible rfl) | (with_reducible assumption) | omega); (case k4 => first | (with_reducible rfl) | (with_reducible assumption) | omega); (case k5 => first | (with_reducible rfl) | (with_reducible assumption) | omega); (case kd => first | exact room1 (by with_reducible assumption) rfl | ktr_room); (case ku => first | exact unit1 (by with_reducible assumption) rfl | ktr_units); intro h9 tk9 c9 u9 cu9 tc9 li9 tl9 bra9 ket9 rv9 F9 N9 e9 e99; subst e9; dsimp only [self8, self6, ent] at N9; (try k_sweep)) | (k_here; (with_reducible show wpAny _ _ (call (Value.ref 251) _ _) _ _ _); refine' r_verb _ _ _ _ _ _ _ _ _ _ _ _ _ _ _ _ _ _ _ _ _ _ _ _ _ _ _ ?kG ?kFD ?kTT ?k1 ?k2 ?k3 ?k4 ?k5 ?koff ?kx ?kB ?kF ?kX ?kV ?kN ?kT ?kk ?kd ?ku ?_; (case kF => k_asm); (case kN => k_asm); (case kB => k_asm); (case kX => k_asm); (case kV => k_asm); (case kT => k_asm); (case koff => assumption); (case kx => assumption); (case kk => first | exact rfl | assumption); (case kG => assumption); (case kFD => assumption); (case kTT => assumption); (case k1 => first | (with_reducible rfl) | (with_reducible assumption) | omega); (case k2 => first | (with_reducible rfl) | (with_reducible assumption) | omega); (case k3 => first | (with_reducible rfl) | (with_reducible assumption) | omega); (case k4 => first | (with_reducible rfl) | (with_reducible assumption) | omega); (case k5 => first | (with_reducible rfl) | (with_reducible assumption) | omega); (case kd => first | exact room1 (by with_reducible assumption) rfl | ktr_room); (case ku => first | exact unit1 (by with_reducible assumption) rfl | ktr_units); intro h9 tk9 c9 u9 cu9 tc9 li9 tl9 bra9 ket9 rv9 F9 N9 e9 e99; subst e9; dsimp only [self8, self6, ent] at N9; (try k_sweep)) | (k_here; (with_reducible show wpAny _ _ (call (Value.ref 265) _ _) _ _ _); refine' r_ending _ _ _ _ _ _ _ _ _ _ _ _ _ _ _ _ _ _ _ _ _ _ _ _ _ _ _ ?kG ?kFD ?kTT ?k1 ?k2 ?k3 ?k4 ?k5 ?koff ?kx ?kB ?kF ?kX ?kV ?kN ?kT ?kk ?kd ?ku ?_; (case kF => k_asm); (case kN => k_asm); (case kB => k_asm); (case kX => k_asm); (case kV => k_asm); (case kT => k_asm); (case koff => assumption); (case kx => assumption); (case kk => first | exact rfl | assumption); (case kG => assumption); (case kFD => assumption); (case kTT => assumption); (case k1 => first | (with_reducible rfl) | (with_reducible assumption) | omega); (case k2 => first | (with_reducible rfl) | (with_reducible assumption) | omega); (case k3 => first | (with_reducible rfl) | (with_reducible assumption) | omega); (case k4 => first | (with_reducible rfl) | (with_reducible assumption) | omega); (case k5 => first | (with_reducible rfl) | (with_reducible assumption) | omega); (case kd => first | exact room1 (by with_reducible assumption) rfl | ktr_room); (case ku => first | exact unit1 (by with_reducible assumption) rfl | ktr_units); intro h9 tk9 c9 u9 cu9 tc9 li9 tl9 bra9 ket9 rv9 F9 N9 e9 e99; subst e9; dsimp only [self8, self6, ent] at N9; (try k_sweep)) | walk1 | (dsimp only; walk1) | (leave1; walk_say "STEP leave1"; try dsimp only) | fail "no step")
  all_goals exact hret _ _ _ _ _ _ _ _ _ _ _ (by assumption) (by assumption)
theorem stem6 (x dx : Addr) (c c' : Str) (u : Tok) (li : Int) (lb : Int) (bra ket : Value) (tc tl tb : Tok) (t1 t2 t3 t4 t5 t6 : Tok) (rest : List (Addr × Obj))
    (hS : Stems c c') (TT : Tabs w.params h₀) (hli : li = c.length) (hlen : (c.length : Int) ≤ 1000)
    (hoff : ∀ p ∈ rest, p.1 ≠ dx) (hx : x ≠ dx)
    (B : Below A₀ base outer h₀) (F : Fr h₀ L s.heap m) (X : (KA w.params).In h₀) (V : VSet w h₀)
    (N : News h₀ L s.heap ((x, instObj 852 dx) :: (dx, dictOf (self6 w.params t1 t2 t3 t4 t5 t6 (.str c u) (.int 0 tc) (.int li tl) (.int lb tb) bra ket) 6) :: rest))
    (T : Top p loose mean mg mb h₀) (hk : cs.kind = .function) (hd : dp + 360 < recursionLimit) (hu : un + 4000 < cLine)
    (hret : ∀ h' tk' u' cur' lim' lb' bra' ket' pv' p2' rv t7' t8', Fr h₀ L h' m → News h₀ L h' ((x, instObj 852 dx) :: (dx, dictOf (self8 w.params t1 t2 t3 t4 t5 t6 t7' t8' (.str c' u') cur' lim' lb' bra' ket' pv' p2') 8) :: rest) → Q rv { s with heap := h', toks := tk' }) :
    wpAny (model prog0 w) (ktrTop dp un gd cn cs L a ccd cl outer) (call (.ref 272) [.ref x]) Q E s := by
  obtain ⟨k1, k2, k3, k4, r3, r1, r0, r2, ⟨G1, G2, G3, G4⟩, ⟨fd3, ok3⟩, ok3', ⟨fd1, ok1⟩, ⟨fd0, ok0⟩, ⟨fd2, ok2⟩, rfl⟩ := hS
  have hk1 := G1.h2
  have hk2 := G2.h1
  have hk3 := G3.h1
  have hk4 := G4.h1
  have hk5 := G4.h2
  have ok3b : ∀ n, r3 = some n → 0 < n ∧ (n : Int) ≤ c.length - ((k1 : Int) + 1) ∧ (k4 : Int) + 1 ≤ c.length - n := fun n e => ⟨(ok3 n e).1, (ok3 n e).2, ok3' n e⟩
  have hc0 := cutO_len c r3 (fun n e => by have := ok3 n e; omega)
  have hc1 := cutO_len (cutL c r3) r1 (fun n e => by have := ok1 n e; omega)
  have hc2 := cutO_len (cutL (cutL c r3) r1) r0 (fun n e => by have := ok0 n e; omega)
  have hb3 : ((r3.getD 0 : Nat) : Int) ≤ c.length - ((k1 : Int) + 1) := by
    cases r3 with
    | none => show ((0 : Nat) : Int) ≤ _; omega
    | some n => exact (ok3 n rfl).2
  have hb1 : ((r1.getD 0 : Nat) : Int) ≤ (cutL c r3).length - ((k1 : Int) + 1) := by
    cases r1 with
    | none => show ((0 : Nat) : Int) ≤ _; unfold cutL; omega
    | some n => exact (ok1 n rfl).2
  have hb0 : ((r0.getD 0 : Nat) : Int) ≤ (cutL (cutL c r3) r1).length - ((k1 : Int) + 1) := by
    cases r0 with
    | none => show ((0 : Nat) : Int) ≤ _; unfold cutL at *; omega
    | some n => exact (ok0 n rfl).2
  dsimp only [cutL] at fd1 ok1 fd0 ok0 fd2 ok2 hc1 hc2 hb1 hb0
  subst hli
  have hfill : PySem.Challenge.rw_ak0021_01.name = PySem.Challenge.rw_ak0021_01.name ∧ KA = KA := by
    k_fill
    exact ⟨rfl, rfl⟩
  clear hfill
  w_on
  dsimp only [self8, self6, ent] at N
  refine wpAny_call ?_
  k_dflt cell_enter
  rename_i g' L' h' FG' F' N' B' X' T'
  have V' := V.keeps FG'.keep
  generalize s.toks + _ = tk0
  obtain ⟨T0, T1, T2, T3⟩ := TT.keeps FG'.keep
  clear TT
  repeat' (first | (k_unfold; (try dsimp only)) | (k_end; wrow_close) | (k_here; (with_reducible show wpAny _ _ (call (Value.ref 237) _ _) _ _ _); refine' mark6 _ _ _ _ _ _ _ _ _ _ _ _ _ _ _ _ _ _ _ _ _ _ ?kG1 ?kG2 ?kG3 ?kG4 ?kl1 ?kl2 ?koff ?kx ?kB ?kF ?kX ?kV ?kN ?kT ?kk ?kd ?ku ?_; (case kF => k_asm); (case kN => k_asm); (case kB => k_asm); (case kX => k_asm); (case kV => k_asm); (case kT => k_asm); (case koff => assumption); (case kx => assumption); (case kk => first | exact rfl | assumption); (case kG1 => assumption); (case kG2 => assumption); (case kG3 => assumption); (case kG4 => assumption); (case kl1 => first | (with_reducible rfl) | (with_reducible assumption) | omega); (case kl2 => first | (with_reducible rfl) | (with_reducible assumption) | omega); (case kd => first | exact room1 (by with_reducible assumption) rfl | ktr_room); (case ku => first | exact unit1 (by with_reducible assumption) rfl | ktr_units); intro h9 tk9 tc9 u7 u8 u9 u10 F9 N9; dsimp only [self8, self6, ent] at N9; (try k_sweep)) | (k_here; (with_reducible show wpAny _ _ (call (Value.ref 237) _ _) _ _ _); refine' mark8 _ _ _ _ _ _ _ _ _ _ _ _ _ _ _ _ _ _ _ _ _ _ _ _ _ _ ?kG1 ?kG2 ?kG3 ?kG4 ?kl1 ?kl2 ?koff ?kx ?kB ?kF ?kX ?kV ?kN ?kT ?kk ?kd ?ku ?_; (case kF => k_asm); (case kN => k_asm); (case kB => k_asm); (case kX => k_asm); (case kV => k_asm); (case kT => k_asm); (case koff => assumption); (case kx => assumption); (case kk => first | exact rfl | assumption); (case kG1 => assumption); (case kG2 => assumption); (case kG3 => assumption); (case kG4 => assumption); (case kl1 => first | (with_reducible rfl) | (with_reducible assumption) | omega); (case kl2 => first | (with_reducible rfl) | (with_reducible assumption) | omega); (case kd => first | exact room1 (by with_reducible assumption) rfl | ktr_room); (case ku => first | exact unit1 (by with_reducible assumption) rfl | ktr_units); intro h9 tk9 tc9 u7 u8 F9 N9; dsimp only [self8, self6, ent] at N9; (try k_sweep)) | (k_here; (with_reducible show wpAny _ _ (call (Value.ref 258) _ _) _ _ _); refine' r_noun _ _ _ _ _ _ _ _ _ _ _ _ _ _ _ _ _ _ _ _ _ _ _ _ _ _ _ ?kG ?kFD ?kTT ?k1 ?k2 ?k3 ?k4 ?k5 ?koff ?kx ?kB ?kF ?kX ?kV ?kN ?kT ?kk ?kd ?ku ?_; (case kF => k_asm); (case kN => k_asm); (case kB => k_asm); (case kX => k_asm); (case kV => k_asm); (case kT => k_asm); (case koff => assumption); (case kx => assumption); (case kk => first | exact rfl | assumption); (case kG => assumption); (case kFD => assumption); (case kTT => assumption); (case k1 => first | (with_reducible rfl) | (with_reducible assumption) | omega); (case k2 => first | (with_reducible rfl) | (with_reducible assumption) | omega); (case k3 => first | (with_reducible rfl) | (with_reducible assumption) | omega); (case k4 => first | (with_reducible rfl) | (with_reducible assumption) | omega); (case k5 => first | (with_reducible rfl) | (with_reducible assumption) | omega); (case kd => first | exact room1 (by with_reducible assumption) rfl | ktr_room); (case ku => first | exact unit1 (by with_reducible assumption) rfl | ktr_units); intro h9 tk9 c9 u9 cu9 tc9 li9 tl9 bra9 ket9 rv9 F9 N9 e9 e99; subst e9; dsimp only [self8, self6, ent] at N9; (try k_sweep)) | (k_here; (with_reducible show wpAny _ _ (call (Value.ref 244) _ _) _ _ _); refine' r_adj _ _ _ _ _ _ _ _ _ _ _ _ _ _ _ _ _ _ _ _ _ _ _ _ _ _ _ ?kG ?kFD ?kTT ?k1 ?k2 ?k3 ?k4 ?k5 ?koff ?kx ?kB ?kF ?kX ?kV ?kN ?kT ?kk ?kd ?ku ?_; (case kF => k_asm); (case kN => k_asm); (case kB => k_asm); (case kX => k_asm); (case kV => k_asm); (case kT => k_asm); (case koff => assumption); (case kx => assumption); (case kk => first | exact rfl | assumption); (case kG => assumption); (case kFD => assumption); (case kTT => assumption); (case k1 => first | (with_reducible rfl) | (with_reducible assumption) | omega); (case k2 => first | (with_reducible rfl) | (with_reducible assumption) | omega); (case k3 => first | (with_reducible rfl) | (with_reducible assumption) | omega); (case k4 => first | (with_reducible rfl) | (with_reducible assumption) | omega); (case k5 => first | (with_reducible rfl) | (with_reducible assumption) | omega); (case kd => first | exact room1 (by with_reducible assumption) rfl | ktr_room); (case ku => first | exact unit1 (by with_reducible assumption) rfl | ktr_units); intro h9 tk9 c9 u9 cu9 tc9 li9 tl9 bra9 ket9 rv9 F9 N9 e9 e99; subst e9; dsimp only [self8, self6, ent] at N9; (try k_sweep)) | (k_here; (with_reducible show wpAny _ _ (call (Value.ref 251) _ _) _ _ _); refine' r_verb _ _ _ _ _ _ _ _ _ _ _ _ _ _ _ _ _ _ _ _ _ _ _ _ _ _ _ ?kG ?kFD ?kTT ?k1 ?k2 ?k3 ?k4 ?k5 ?koff ?kx ?kB ?kF ?kX ?kV ?kN ?kT ?kk ?kd ?ku ?_; (case kF => k_asm); (case kN => k_asm); (case kB => k_asm); (case kX => k_asm); (case kV => k_asm); (case kT => k_asm); (case koff => assumption); (case kx => assumption); (case kk => first | exact rfl | assumption); (case kG => assumption); (case kFD => assumption); (case kTT => assumption); (case k1 => first | (with_reducible rfl) | (with_reducible assumption) | omega); (case k2 => first | (with_reducible rfl) | (with_reducible assumption) | omega); (case k3 => first | (with_reducible rfl) | (with_reducible assumption) | omega); (case k4 => first | (with_reducible rfl) | (with_reducible assumption) | omega); (case k5 => first | (with_reducible rfl) | (with_reducible assumption) | omega); (case kd => first | exact room1 (by with_reducible assumption) rfl | ktr_room); (case ku => first | exact unit1 (by with_reducible assumption) rfl | ktr_units); intro h9 tk9 c9 u9 cu9 tc9 li9 tl9 bra9 ket9 rv9 F9 N9 e9 e99; subst e9; dsimp only [self8, self6, ent] at N9; (try k_sweep)) | (k_here; (with_reducible show wpAny _ _ (call (Value.ref 265) _ _) _ _ _); refine' r_ending _ _ _ _ _ _ _ _ _ _ _ _ _ _ _ _ _ _ _ _ _ _ _ _ _ _ _ ?kG ?kFD ?kTT ?k1 ?k2 ?k3 ?k4 ?k5 ?koff ?kx ?kB ?kF ?kX ?kV ?kN ?kT ?kk ?kd ?ku ?_; (case kF => k_asm); (case kN => k_asm); (case kB => k_asm); (case kX => k_asm); (case kV => k_asm); (case kT => k_asm); (case koff => assumption); (case kx => assumption); (case kk => first | exact rfl | assumption); (case kG => assumption); (case kFD => assumption); (case kTT => assumption); (case k1 => first | (with_reducible rfl) | (with_reducible assumption) | omega); (case k2 => first | (with_reducible rfl) | (with_reducible assumption) | omega); (case k3 => first | (with_reducible rfl) | (with_reducible assumption) | omega); (case k4 => first | (with_reducible rfl) | (with_reducible assumption) | omega); (case k5 => first | (with_reducible rfl) | (with_reducible assumption) | omega); (case kd => first | exact room1 (by with_reducible assumption) rfl | ktr_room); (case ku => first | exact unit1 (by with_reducible assumption) rfl | ktr_units); intro h9 tk9 c9 u9 cu9 tc9 li9 tl9 bra9 ket9 rv9 F9 N9 e9 e99; subst e9; dsimp only [self8, self6, ent] at N9; (try k_sweep)) | walk1 | (dsimp only; walk1) | (leave1; walk_say "STEP leave1"; try dsimp only) | fail "no step")
  all_goals exact hret _ _ _ _ _ _ _ _ _ _ _ _ _ (by assumption) (by assumption)
end
end Mine
end
section
open PySem PySem.W PyProof.Rows PySem.Calls
set_option maxRecDepth 100000
set_option maxHeartbeats 4000000
set_option linter.unusedVariables false
namespace Mine
local macro_rules | `(tactic| k_all) => `(tactic| assumption)
section
variable {w : World} {p : Program} {loose : List Str} {mean : ExcName → Option Value} {mg mb : Str → Option Value} {dp un : Nat} {gd : Option (List Code)} {cn : Str} {cs : Scope} {a : Addr} {ccd : Value} {cl : List (Str × Addr)} {outer : List Env} {A₀ : Around} {base h₀ : Heap} {L : Addr} {m : Str → Option Value} {s : Shared} {Q E : Value → Shared → Prop}
theorem set8 (x dx : Addr) (c' : Str) (u' : Tok) (c cur lim lb bra ket pv p2 : Value) (t1 t2 t3 t4 t5 t6 t7 t8 : Tok) (rest : List (Addr × Obj)) (hlen : (c'.length : Int) ≤ 1000)
    (hoff : ∀ p ∈ rest, p.1 ≠ dx) (hx : x ≠ dx)
    (B : Below A₀ base outer h₀) (F : Fr h₀ L s.heap m) (X : (KA w.params).In h₀) (V : VSet w h₀)
    (N : News h₀ L s.heap ((x, instObj 852 dx) :: (dx, dictOf (self8 w.params t1 t2 t3 t4 t5 t6 t7 t8 c cur lim lb bra ket pv p2) 8) :: rest))
    (T : Top p loose mean mg mb h₀) (hk : cs.kind = .function) (hd : dp + 30 < recursionLimit) (hu : un + 300 < cLine)
    (hret : ∀ h' tk' u1 u2 u3 u4 u5, Fr h₀ L h' m → News h₀ L h' ((x, instObj 852 dx) :: (dx, dictOf (self8 w.params t1 t2 t3 t4 t5 t6 t7 t8 (.str c' u') (.int 0 u1) (.int c'.length u2) (.int 0 u3) (.int 0 u4) (.int c'.length u5) pv p2) 8) :: rest) → Q .none { s with heap := h', toks := tk' }) :
    wpAny (model prog0 w) (ktrTop dp un gd cn cs L a ccd cl outer) (call (.ref 42) [.ref x, .str c' u']) Q E s := by
  have hfill : PySem.Challenge.rw_ak0021_01.name = PySem.Challenge.rw_ak0021_01.name ∧ KA = KA := by
    k_fill
    exact ⟨rfl, rfl⟩
  clear hfill
  w_on
  (try dsimp only [self8, self6, ent] at N)
  refine wpAny_call ?_
  k_dflt cell_enter
  rename_i g' L' h' FG' F' N' B' X' T'
  have V' := V.keeps FG'.keep
  generalize s.toks + _ = tk0
  k_steps
  all_goals exact hret _ _ _ _ _ _ _ (by assumption) (by assumption)
theorem set6 (x dx : Addr) (c' : Str) (u' : Tok) (c cur lim lb bra ket : Value) (t1 t2 t3 t4 t5 t6 : Tok) (rest : List (Addr × Obj)) (hlen : (c'.length : Int) ≤ 1000)
    (hoff : ∀ p ∈ rest, p.1 ≠ dx) (hx : x ≠ dx)
    (B : Below A₀ base outer h₀) (F : Fr h₀ L s.heap m) (X : (KA w.params).In h₀) (V : VSet w h₀)
    (N : News h₀ L s.heap ((x, instObj 852 dx) :: (dx, dictOf (self6 w.params t1 t2 t3 t4 t5 t6 c cur lim lb bra ket) 6) :: rest))
    (T : Top p loose mean mg mb h₀) (hk : cs.kind = .function) (hd : dp + 30 < recursionLimit) (hu : un + 300 < cLine)
    (hret : ∀ h' tk' u1 u2 u3 u4 u5, Fr h₀ L h' m → News h₀ L h' ((x, instObj 852 dx) :: (dx, dictOf (self6 w.params t1 t2 t3 t4 t5 t6 (.str c' u') (.int 0 u1) (.int c'.length u2) (.int 0 u3) (.int 0 u4) (.int c'.length u5)) 6) :: rest) → Q .none { s with heap := h', toks := tk' }) :
    wpAny (model prog0 w) (ktrTop dp un gd cn cs L a ccd cl outer) (call (.ref 42) [.ref x, .str c' u']) Q E s := by
  have hfill : PySem.Challenge.rw_ak0021_01.name = PySem.Challenge.rw_ak0021_01.name ∧ KA = KA := by
    k_fill
    exact ⟨rfl, rfl⟩
  clear hfill
  w_on
  (try dsimp only [self8, self6, ent] at N)
  refine wpAny_call ?_
  k_dflt cell_enter
  rename_i g' L' h' FG' F' N' B' X' T'
  have V' := V.keeps FG'.keep
  generalize s.toks + _ = tk0
  k_steps
  all_goals exact hret _ _ _ _ _ _ _ (by assumption) (by assumption)
theorem set0 (x dx : Addr) (c' : Str) (u' : Tok)  (rest : List (Addr × Obj)) (hlen : (c'.length : Int) ≤ 1000)
    (hoff : ∀ p ∈ rest, p.1 ≠ dx) (hx : x ≠ dx)
    (B : Below A₀ base outer h₀) (F : Fr h₀ L s.heap m) (X : (KA w.params).In h₀) (V : VSet w h₀)
    (N : News h₀ L s.heap ((x, instObj 852 dx) :: (dx, dictOf ([]) 0) :: rest))
    (T : Top p loose mean mg mb h₀) (hk : cs.kind = .function) (hd : dp + 30 < recursionLimit) (hu : un + 300 < cLine)
    (hret : ∀ h' tk' u1 u2 u3 u4 u5 t1 t2 t3 t4 t5 t6, Fr h₀ L h' m → News h₀ L h' ((x, instObj 852 dx) :: (dx, dictOf (self6 w.params t1 t2 t3 t4 t5 t6 (.str c' u') (.int 0 u1) (.int c'.length u2) (.int 0 u3) (.int 0 u4) (.int c'.length u5)) 6) :: rest) → Q .none { s with heap := h', toks := tk' }) :
    wpAny (model prog0 w) (ktrTop dp un gd cn cs L a ccd cl outer) (call (.ref 42) [.ref x, .str c' u']) Q E s := by
  have hfill : PySem.Challenge.rw_ak0021_01.name = PySem.Challenge.rw_ak0021_01.name ∧ KA = KA := by
    k_fill
    exact ⟨rfl, rfl⟩
  clear hfill
  w_on
  (try dsimp only [self8, self6, ent] at N)
  refine wpAny_call ?_
  k_dflt cell_enter
  rename_i g' L' h' FG' F' N' B' X' T'
  have V' := V.keeps FG'.keep
  generalize s.toks + _ = tk0
  k_steps
  all_goals exact hret _ _ _ _ _ _ _ _ _ _ _ _ _ (by assumption) (by assumption)
theorem get8 (x dx : Addr) (c : Str) (u : Tok) (cur lim lb bra ket pv p2 : Value) (t1 t2 t3 t4 t5 t6 t7 t8 : Tok) (rest : List (Addr × Obj))
    (hoff : ∀ p ∈ rest, p.1 ≠ dx) (hx : x ≠ dx)
    (B : Below A₀ base outer h₀) (F : Fr h₀ L s.heap m) (X : (KA w.params).In h₀) (V : VSet w h₀)
    (N : News h₀ L s.heap ((x, instObj 852 dx) :: (dx, dictOf (self8 w.params t1 t2 t3 t4 t5 t6 t7 t8 (.str c u) cur lim lb bra ket pv p2) 8) :: rest))
    (T : Top p loose mean mg mb h₀) (hk : cs.kind = .function) (hd : dp + 30 < recursionLimit) (hu : un + 300 < cLine)
    (hret : ∀ h' tk', Fr h₀ L h' m → News h₀ L h' ((x, instObj 852 dx) :: (dx, dictOf (self8 w.params t1 t2 t3 t4 t5 t6 t7 t8 (.str c u) cur lim lb bra ket pv p2) 8) :: rest) → Q (.str c u) { s with heap := h', toks := tk' }) :
    wpAny (model prog0 w) (ktrTop dp un gd cn cs L a ccd cl outer) (call (.ref 49) [.ref x]) Q E s := by
  have hfill : PySem.Challenge.rw_ak0021_01.name = PySem.Challenge.rw_ak0021_01.name ∧ KA = KA := by
    k_fill
    exact ⟨rfl, rfl⟩
  clear hfill
  w_on
  dsimp only [self8, self6, ent] at N
  refine wpAny_call ?_
  k_dflt cell_enter
  rename_i g' L' h' FG' F' N' B' X' T'
  have V' := V.keeps FG'.keep
  generalize s.toks + _ = tk0
  k_steps
  all_goals exact hret _ _ (by assumption) (by assumption)
theorem word8 (x dx : Addr) (c' c9 : Str) (u9 : Tok) (c cur lim lb bra ket pv p2 : Value) (t1 t2 t3 t4 t5 t6 t7 t8 : Tok) (rest : List (Addr × Obj)) (hS : Stems c' c9) (TT : Tabs w.params h₀) (hlen : (c'.length : Int) ≤ 1000)
    (hoff : ∀ p ∈ rest, p.1 ≠ dx) (hx : x ≠ dx)
    (B : Below A₀ base outer h₀) (F : Fr h₀ L s.heap m) (X : (KA w.params).In h₀) (V : VSet w h₀)
    (N : News h₀ L s.heap ((x, instObj 852 dx) :: (dx, dictOf (self8 w.params t1 t2 t3 t4 t5 t6 t7 t8 c cur lim lb bra ket pv p2) 8) :: rest))
    (T : Top p loose mean mg mb h₀) (hk : cs.kind = .function) (hd : dp + 420 < recursionLimit) (hu : un + 4800 < cLine)
    (hret : ∀ h' tk' u' cur' lim' lb' bra' ket' pv' p2', Fr h₀ L h' m → News h₀ L h' ((x, instObj 852 dx) :: (dx, dictOf (self8 w.params t1 t2 t3 t4 t5 t6 t7 t8 (.str c9 u') cur' lim' lb' bra' ket' pv' p2') 8) :: rest) → Q (.str c9 u') { s with heap := h', toks := tk' }) :
    wpAny (model prog0 w) (ktrTop dp un gd cn cs L a ccd cl outer) (call (.ref 189) [.ref x, .str c' u9]) Q E s := by
  have hfill : PySem.Challenge.rw_ak0021_01.name = PySem.Challenge.rw_ak0021_01.name ∧ KA = KA := by
    k_fill
    exact ⟨rfl, rfl⟩
  clear hfill
  w_on
  dsimp only [self8, self6, ent] at N
  refine wpAny_call ?_
  k_dflt cell_enter
  rename_i g' L' h' FG' F' N' B' X' T'
  have V' := V.keeps FG'.keep
  generalize s.toks + _ = tk0
  have TT' := TT.keeps FG'.keep
  clear TT
  repeat' (first | (k_unfold; (try dsimp only)) | (k_end; wrow_close) | (k_here; (with_reducible show wpAny _ _ (call (Value.ref 49) _ _) _ _ _); refine' get8 _ _ _ _ _ _ _ _ _ _ _ _ _ _ _ _ _ _ _ _  ?koff ?kx ?kB ?kF ?kX ?kV ?kN ?kT ?kk ?kd ?ku ?_; (case kF => k_asm); (case kN => k_asm); (case kB => k_asm); (case kX => k_asm); (case kV => k_asm); (case kT => k_asm); (case koff => assumption); (case kx => assumption); (case kk => first | exact rfl | assumption); (case kd => first | exact room1 (by with_reducible assumption) rfl | ktr_room); (case ku => first | exact unit1 (by with_reducible assumption) rfl | ktr_units); intro h9 tk9 F9 N9; dsimp only [self8, self6, ent] at N9; (try k_sweep)) | (k_here; (with_reducible show wpAny _ _ (call (Value.ref 272) _ _) _ _ _); refine' stem8 _ _ _ _ _ _ _ _ _ _ _ _ _ _ _ _ _ _ _ _ _ _ _ ?kS ?kTT ?kl1 ?kl2 ?koff ?kx ?kB ?kF ?kX ?kV ?kN ?kT ?kk ?kd ?ku ?_; (case kF => k_asm); (case kN => k_asm); (case kB => k_asm); (case kX => k_asm); (case kV => k_asm); (case kT => k_asm); (case koff => assumption); (case kx => assumption); (case kk => first | exact rfl | assumption); (case kS => assumption); (case kTT => assumption); (case kl1 => rfl); (case kl2 => assumption); (case kd => first | exact room1 (by with_reducible assumption) rfl | ktr_room); (case ku => first | exact unit1 (by with_reducible assumption) rfl | ktr_units); intro h9 tk9 u96 cur9 lim9 lb9 bra9 ket9 pv9 p29 rv9 F9 N9; dsimp only [self8, self6, ent] at N9; (try k_sweep)) | (k_here; (with_reducible show wpAny _ _ (call (Value.ref 42) _ _) _ _ _); refine' set8 _ _ _ _ _ _ _ _ _ _ _ _ _ _ _ _ _ _ _ _ _ ?kl ?koff ?kx ?kB ?kF ?kX ?kV ?kN ?kT ?kk ?kd ?ku ?_; (case kF => k_asm); (case kN => k_asm); (case kB => k_asm); (case kX => k_asm); (case kV => k_asm); (case kT => k_asm); (case koff => assumption); (case kx => assumption); (case kk => first | exact rfl | assumption); (case kl => assumption); (case kd => first | exact room1 (by with_reducible assumption) rfl | ktr_room); (case ku => first | exact unit1 (by with_reducible assumption) rfl | ktr_units); intro h9 tk9 u91 u92 u93 u94 u95 F9 N9; dsimp only [self8, self6, ent] at N9; (try k_sweep)) | walk1 | (dsimp only; walk1) | (leave1; walk_say "STEP leave1"; try dsimp only) | fail "no step")
  all_goals exact hret _ _ _ _ _ _ _ _ _ _ (by assumption) (by assumption)
theorem word6 (x dx : Addr) (c' c9 : Str) (u9 : Tok) (c cur lim lb bra ket : Value) (t1 t2 t3 t4 t5 t6 : Tok) (rest : List (Addr × Obj)) (hS : Stems c' c9) (TT : Tabs w.params h₀) (hlen : (c'.length : Int) ≤ 1000)
    (hoff : ∀ p ∈ rest, p.1 ≠ dx) (hx : x ≠ dx)
    (B : Below A₀ base outer h₀) (F : Fr h₀ L s.heap m) (X : (KA w.params).In h₀) (V : VSet w h₀)
    (N : News h₀ L s.heap ((x, instObj 852 dx) :: (dx, dictOf (self6 w.params t1 t2 t3 t4 t5 t6 c cur lim lb bra ket) 6) :: rest))
    (T : Top p loose mean mg mb h₀) (hk : cs.kind = .function) (hd : dp + 420 < recursionLimit) (hu : un + 4800 < cLine)
    (hret : ∀ h' tk' u' cur' lim' lb' bra' ket' pv' p2' t7' t8', Fr h₀ L h' m → News h₀ L h' ((x, instObj 852 dx) :: (dx, dictOf (self8 w.params t1 t2 t3 t4 t5 t6 t7' t8' (.str c9 u') cur' lim' lb' bra' ket' pv' p2') 8) :: rest) → Q (.str c9 u') { s with heap := h', toks := tk' }) :
    wpAny (model prog0 w) (ktrTop dp un gd cn cs L a ccd cl outer) (call (.ref 189) [.ref x, .str c' u9]) Q E s := by
  have hfill : PySem.Challenge.rw_ak0021_01.name = PySem.Challenge.rw_ak0021_01.name ∧ KA = KA := by
    k_fill
    exact ⟨rfl, rfl⟩
  clear hfill
  w_on
  dsimp only [self8, self6, ent] at N
  refine wpAny_call ?_
  k_dflt cell_enter
  rename_i g' L' h' FG' F' N' B' X' T'
  have V' := V.keeps FG'.keep
  generalize s.toks + _ = tk0
  have TT' := TT.keeps FG'.keep
  clear TT
  repeat' (first | (k_unfold; (try dsimp only)) | (k_end; wrow_close) | (k_here; (with_reducible show wpAny _ _ (call (Value.ref 49) _ _) _ _ _); refine' get8 _ _ _ _ _ _ _ _ _ _ _ _ _ _ _ _ _ _ _ _  ?koff ?kx ?kB ?kF ?kX ?kV ?kN ?kT ?kk ?kd ?ku ?_; (case kF => k_asm); (case kN => k_asm); (case kB => k_asm); (case kX => k_asm); (case kV => k_asm); (case kT => k_asm); (case koff => assumption); (case kx => assumption); (case kk => first | exact rfl | assumption); (case kd => first | exact room1 (by with_reducible assumption) rfl | ktr_room); (case ku => first | exact unit1 (by with_reducible assumption) rfl | ktr_units); intro h9 tk9 F9 N9; dsimp only [self8, self6, ent] at N9; (try k_sweep)) | (k_here; (with_reducible show wpAny _ _ (call (Value.ref 272) _ _) _ _ _); refine' stem6 _ _ _ _ _ _ _ _ _ _ _ _ _ _ _ _ _ _ _ ?kS ?kTT ?kl1 ?kl2 ?koff ?kx ?kB ?kF ?kX ?kV ?kN ?kT ?kk ?kd ?ku ?_; (case kF => k_asm); (case kN => k_asm); (case kB => k_asm); (case kX => k_asm); (case kV => k_asm); (case kT => k_asm); (case koff => assumption); (case kx => assumption); (case kk => first | exact rfl | assumption); (case kS => assumption); (case kTT => assumption); (case kl1 => rfl); (case kl2 => assumption); (case kd => first | exact room1 (by with_reducible assumption) rfl | ktr_room); (case ku => first | exact unit1 (by with_reducible assumption) rfl | ktr_units); intro h9 tk9 u96 cur9 lim9 lb9 bra9 ket9 pv9 p29 rv9 t79 t89 F9 N9; dsimp only [self8, self6, ent] at N9; (try k_sweep)) | (k_here; (with_reducible show wpAny _ _ (call (Value.ref 42) _ _) _ _ _); refine' set6 _ _ _ _ _ _ _ _ _ _ _ _ _ _ _ _ _ ?kl ?koff ?kx ?kB ?kF ?kX ?kV ?kN ?kT ?kk ?kd ?ku ?_; (case kF => k_asm); (case kN => k_asm); (case kB => k_asm); (case kX => k_asm); (case kV => k_asm); (case kT => k_asm); (case koff => assumption); (case kx => assumption); (case kk => first | exact rfl | assumption); (case kl => assumption); (case kd => first | exact room1 (by with_reducible assumption) rfl | ktr_room); (case ku => first | exact unit1 (by with_reducible assumption) rfl | ktr_units); intro h9 tk9 u91 u92 u93 u94 u95 F9 N9; dsimp only [self8, self6, ent] at N9; (try k_sweep)) | (k_here; (with_reducible show wpAny _ _ (call (Value.ref 49) _ _) _ _ _); refine' get8 _ _ _ _ _ _ _ _ _ _ _ _ _ _ _ _ _ _ _ _  ?koff ?kx ?kB ?kF ?kX ?kV ?kN ?kT ?kk ?kd ?ku ?_; (case kF => k_asm); (case kN => k_asm); (case kB => k_asm); (case kX => k_asm); (case kV => k_asm); (case kT => k_asm); (case koff => assumption); (case kx => assumption); (case kk => first | exact rfl | assumption); (case kd => first | exact room1 (by with_reducible assumption) rfl | ktr_room); (case ku => first | exact unit1 (by with_reducible assumption) rfl | ktr_units); intro h9 tk9 F9 N9; dsimp only [self8, self6, ent] at N9; (try k_sweep)) | (k_here; (with_reducible show wpAny _ _ (call (Value.ref 272) _ _) _ _ _); refine' stem8 _ _ _ _ _ _ _ _ _ _ _ _ _ _ _ _ _ _ _ _ _ _ _ ?kS ?kTT ?kl1 ?kl2 ?koff ?kx ?kB ?kF ?kX ?kV ?kN ?kT ?kk ?kd ?ku ?_; (case kF => k_asm); (case kN => k_asm); (case kB => k_asm); (case kX => k_asm); (case kV => k_asm); (case kT => k_asm); (case koff => assumption); (case kx => assumption); (case kk => first | exact rfl | assumption); (case kS => assumption); (case kTT => assumption); (case kl1 => rfl); (case kl2 => assumption); (case kd => first | exact room1 (by with_reducible assumption) rfl | ktr_room); (case ku => first | exact unit1 (by with_reducible assumption) rfl | ktr_units); intro h9 tk9 u96 cur9 lim9 lb9 bra9 ket9 pv9 p29 rv9 F9 N9; dsimp only [self8, self6, ent] at N9; (try k_sweep)) | (k_here; (with_reducible show wpAny _ _ (call (Value.ref 42) _ _) _ _ _); refine' set8 _ _ _ _ _ _ _ _ _ _ _ _ _ _ _ _ _ _ _ _ _ ?kl ?koff ?kx ?kB ?kF ?kX ?kV ?kN ?kT ?kk ?kd ?ku ?_; (case kF => k_asm); (case kN => k_asm); (case kB => k_asm); (case kX => k_asm); (case kV => k_asm); (case kT => k_asm); (case koff => assumption); (case kx => assumption); (case kk => first | exact rfl | assumption); (case kl => assumption); (case kd => first | exact room1 (by with_reducible assumption) rfl | ktr_room); (case ku => first | exact unit1 (by with_reducible assumption) rfl | ktr_units); intro h9 tk9 u91 u92 u93 u94 u95 F9 N9; dsimp only [self8, self6, ent] at N9; (try k_sweep)) | walk1 | (dsimp only; walk1) | (leave1; walk_say "STEP leave1"; try dsimp only) | fail "no step")
  all_goals exact hret _ _ _ _ _ _ _ _ _ _ _ _ (by assumption) (by assumption)
end
end Mine
end
section
open PySem PySem.W PyProof.Rows PySem.Calls
set_option maxRecDepth 100000
set_option maxHeartbeats 4000000
set_option linter.unusedVariables false
namespace Mine
theorem ka_in {P : Params} {h : Heap} (X : (Kall P).In h) : (KA P).In h := fun a o e => X a o (by
  show List.lookup a (KA P ++ KB P) = some o
  rw [List.lookup_append, e]
  rfl)
theorem tab_in {P : Params} {h : Heap} {b : Nat} {tab : List AmRow} (X : (Kall P).In h) (e1 : ((List.range tab.length).map fun k => (Kall P).lookup (b + 3 * k + 1)) = tab.map fun r => some (amI r)) (e2 : (tab.map fun r => (Kall P).lookup r.x) = tab.map fun r => some (amD P r)) : AmTab P h b tab := by
  refine ⟨fun k r hr => ?_⟩
  have hk : k < tab.length := (List.getElem?_eq_some_iff.mp hr).1
  constructor
  · have := congrArg (·[k]?) e1
    simp [hk] at this
    refine X _ _ (this.trans ?_)
    rw [(List.getElem?_eq_some_iff.mp hr).2]
  · have := congrArg (·[k]?) e2
    simp [hk] at this
    have hr2 := (List.getElem?_eq_some_iff.mp hr).2
    rw [hr2] at this
    exact X _ _ this
theorem t0a (P : Params) : ((List.range tab0.length).map fun k => (Kall P).lookup (273 + 3 * k + 1)) = tab0.map fun r => some (amI r) := by kernel_rfl
theorem t1a (P : Params) : ((List.range tab1.length).map fun k => (Kall P).lookup (343 + 3 * k + 1)) = tab1.map fun r => some (amI r) := by kernel_rfl
theorem t2a (P : Params) : ((List.range tab2.length).map fun k => (Kall P).lookup (557 + 3 * k + 1)) = tab2.map fun r => some (amI r) := by kernel_rfl
theorem t3a (P : Params) : ((List.range tab3.length).map fun k => (Kall P).lookup (678 + 3 * k + 1)) = tab3.map fun r => some (amI r) := by kernel_rfl
theorem t0b (P : Params) : (tab0.map fun r => (Kall P).lookup r.x) = tab0.map fun r => some (amD P r) := by kernel_rfl
theorem t1b (P : Params) : (tab1.map fun r => (Kall P).lookup r.x) = tab1.map fun r => some (amD P r) := by kernel_rfl
theorem t2b (P : Params) : (tab2.map fun r => (Kall P).lookup r.x) = tab2.map fun r => some (amD P r) := by kernel_rfl
theorem t3b (P : Params) : (tab3.map fun r => (Kall P).lookup r.x) = tab3.map fun r => some (amD P r) := by kernel_rfl
theorem short_of {tab : List AmRow} (h : tab.all (fun r => decide (r.s.length ≤ 100)) = true) (k : Nat) (r : AmRow) (e : tab[k]? = some r) : r.s.length ≤ 100 :=
  of_decide_eq_true (List.all_eq_true.mp h r (List.mem_of_getElem? e))
theorem short0 : tab0.all (fun r => decide (r.s.length ≤ 100)) = true := by decide +kernel
theorem short1 : tab1.all (fun r => decide (r.s.length ≤ 100)) = true := by decide +kernel
theorem short2 : tab2.all (fun r => decide (r.s.length ≤ 100)) = true := by decide +kernel
theorem short3 : tab3.all (fun r => decide (r.s.length ≤ 100)) = true := by decide +kernel
theorem k342 (P : Params) : (KA P).lookup 342 = some ⟨.type "list", none, .seq (tabRefs 273 tab0.length).toArray 0, #[]⟩ := by kernel_rfl
theorem k556 (P : Params) : (KA P).lookup 556 = some ⟨.type "list", none, .seq (tabRefs 343 tab1.length).toArray 0, #[]⟩ := by kernel_rfl
theorem k677 (P : Params) : (KA P).lookup 677 = some ⟨.type "list", none, .seq (tabRefs 557 tab2.length).toArray 0, #[]⟩ := by kernel_rfl
theorem k849 (P : Params) : (KA P).lookup 849 = some ⟨.type "list", none, .seq (tabRefs 678 tab3.length).toArray 0, #[]⟩ := by kernel_rfl
theorem tabs_in {P : Params} {h : Heap} (X : (Kall P).In h) : Tabs P h :=
  have Y := ka_in X
  ⟨⟨lstK Y (k342 P), tab_in X (t0a P) (t0b P), by decide +kernel, by decide +kernel, short_of short0⟩,
   ⟨lstK Y (k556 P), tab_in X (t1a P) (t1b P), by decide +kernel, by decide +kernel, short_of short1⟩,
   ⟨lstK Y (k677 P), tab_in X (t2a P) (t2b P), by decide +kernel, by decide +kernel, short_of short2⟩,
   ⟨lstK Y (k849 P), tab_in X (t3a P) (t3b P), by decide +kernel, by decide +kernel, short_of short3⟩⟩
theorem k230 (P : Params) : (KA P).lookup 230 = some (oSet P) := by kernel_rfl
theorem vset_in {w : World} {h : Heap} (X : (Kall w.params).In h) : VSet w h := ⟨⟨_, ka_in X _ _ (k230 _), oSet_is _ w⟩⟩
end Mine
end
section
open PySem PySem.W PyProof.Rows PySem.Calls
set_option maxRecDepth 100000
set_option maxHeartbeats 4000000
set_option linter.unusedVariables false
namespace Mine
noncomputable def atN (ns : List Int) (p : Int) : Int := ns.getD p.toNat 0
noncomputable def signs : Str := Str.ofString "աբգդեզէըթժիլխծկհձղճմյնշոչպջռսվտրցւփքօֆև"
/-- a sign of the front -/
noncomputable def signOf (k : Int) : Str := if (if k < 0 then -k else k).fmod (((39 : Nat) : Int) + 1) < ((39 : Nat) : Int) then Txt.item signs ((if k < 0 then -k else k).fmod (((39 : Nat) : Int) + 1)) else ⟨#[(32 + ((if k < 0 then -k else k).fdiv (((39 : Nat) : Int) + 1)).fmod 1424).toNat]⟩
theorem signOf_1 (k : Int) (h : (if k < 0 then -k else k).fmod (((39 : Nat) : Int) + 1) < ((39 : Nat) : Int)) : signOf k = Txt.item signs ((if k < 0 then -k else k).fmod (((39 : Nat) : Int) + 1)) := if_pos h
theorem signOf_2 (k : Int) (h : ¬ (if k < 0 then -k else k).fmod (((39 : Nat) : Int) + 1) < ((39 : Nat) : Int)) : signOf k = ⟨#[(32 + ((if k < 0 then -k else k).fdiv (((39 : Nat) : Int) + 1)).fmod 1424).toNat]⟩ := if_neg h
theorem atN_no (ns : List Int) (q : Int) (h : ¬ q < (ns.length : Int)) : atN ns q = 0 := by
  unfold atN
  rw [List.getD_eq_getElem?_getD, List.getElem?_eq_none (by omega)]
  rfl
local macro_rules | `(tactic| k_all) => `(tactic| assumption)
section
variable {w : World} {p : Program} {loose : List Str} {mean : ExcName → Option Value} {mg mb : Str → Option Value} {dp un : Nat} {gd : Option (List Code)} {cn : Str} {cs : Scope} {a : Addr} {ccd : Value} {cl : List (Str × Addr)} {outer : List Env} {A₀ : Around} {base h₀ : Heap} {L : Addr} {m : Str → Option Value} {s : Shared} {Q E : Value → Shared → Prop}
theorem law_at (l : Addr) (vs : List Value) (ns : List Int) (q : Int) (tq : Tok) (news : List (Addr × Obj)) (hl : h₀.IsList l vs.toArray) (hI : IntsAre vs ns) (hq : 0 ≤ q) (hq2 : q < 1000) (hlen : ns.length ≤ 63)
    (B : Below A₀ base outer h₀) (F : Fr h₀ L s.heap m) (X : (KA w.params).In h₀)
    (N : News h₀ L s.heap news)
    (T : Top p loose mean mg mb h₀) (hk : cs.kind = .function) (hd : dp + 20 < recursionLimit) (hu : un + 160 < cLine)
    (hret : ∀ h' tk' t', Fr h₀ L h' m → News h₀ L h' news → Q (.int (atN ns q) t') { s with heap := h', toks := tk' }) :
    wpAny (model prog0 w) (ktrTop dp un gd cn cs L a ccd cl outer) (call (.ref 879) [.ref l, .int q tq]) Q E s := by
  have hfill : PySem.Challenge.rw_ak0021_01.name = PySem.Challenge.rw_ak0021_01.name ∧ KA = KA := by
    k_fill
    exact ⟨rfl, rfl⟩
  clear hfill
  w_on
  refine wpAny_call ?_
  k_dflt cell_enter
  rename_i g' L' h' FG' F' N' B' X' T'
  generalize s.toks + _ = tk0
  have hl' := FG'.lst hl
  clear hl
  repeat' (first | (k_unfold; (try dsimp only)) | (k_end; wrow_close) | walk1 | (k_here; (with_reducible show wpAny _ _ (subscriptTail _ _ (Value.ref _) (Value.int _ _)) _ _ _); refine' item_listL (Fr.lst ?f ?l) ?h0 ?h1 ?hx ?_; (case f => k_asm); (case l => assumption); (case h0 => first | (with_reducible rfl) | (with_reducible assumption) | omega); (case h1 => first | (with_reducible rfl) | (with_reducible assumption) | omega); (case hx => assumption)) | (k_here; (with_reducible show wpAny _ _ (call (Value.builtin "len") [Value.ref _]) _ _ _); refine' len_list (Fr.lst ?f ?l) ?z ?_; (case f => k_asm); (case l => assumption); (case z => (simp only [List.size_toArray]; omega)); (simp only [List.size_toArray])) | (k_here; (with_reducible show wpAny _ _ (subscriptTail _ _ (Value.str _ _) (Value.int _ _)) _ _ _); refine' str_at ?h0 ?h1 ?h2 ?_ ?h3; (case h0 => first | (with_reducible rfl) | (with_reducible assumption) | omega); (case h1 => first | (with_reducible rfl) | (with_reducible assumption) | omega); (case h2 => first | (with_reducible rfl) | (with_reducible assumption) | omega); (case h3 => with_unfolding_all rfl)) | (dsimp only; walk1) | (leave1; walk_say "STEP leave1"; try dsimp only) | fail "no step")
  · exact hret _ _ _ (by assumption) (by assumption)
  · rw [← atN_no ns q (by assumption)]
    exact hret _ _ _ (by assumption) (by assumption)
theorem law_sign (k : Int) (tq : Tok) (news : List (Addr × Obj))
    (B : Below A₀ base outer h₀) (F : Fr h₀ L s.heap m) (X : (KA w.params).In h₀)
    (N : News h₀ L s.heap news)
    (T : Top p loose mean mg mb h₀) (hk : cs.kind = .function) (hd : dp + 20 < recursionLimit) (hu : un + 160 < cLine)
    (hret : ∀ h' tk' t', Fr h₀ L h' m → News h₀ L h' news → Q (.str (signOf k) t') { s with heap := h', toks := tk' }) :
    wpAny (model prog0 w) (ktrTop dp un gd cn cs L a ccd cl outer) (call (.ref 886) [.int k tq]) Q E s := by
  have hfill : PySem.Challenge.rw_ak0021_01.name = PySem.Challenge.rw_ak0021_01.name ∧ KA = KA := by
    k_fill
    exact ⟨rfl, rfl⟩
  clear hfill
  w_on
  refine wpAny_call ?_
  k_dflt cell_enter
  rename_i g' L' h' FG' F' N' B' X' T'
  generalize s.toks + _ = tk0
  repeat' (first | (k_unfold; (try dsimp only)) | (k_end; wrow_close) | walk1 | (k_here; (with_reducible show wpAny _ _ (subscriptTail _ _ (Value.ref _) (Value.int _ _)) _ _ _); refine' item_listL (Fr.lst ?f ?l) ?h0 ?h1 ?hx ?_; (case f => k_asm); (case l => assumption); (case h0 => first | (with_reducible rfl) | (with_reducible assumption) | omega); (case h1 => first | (with_reducible rfl) | (with_reducible assumption) | omega); (case hx => assumption)) | (k_here; (with_reducible show wpAny _ _ (call (Value.builtin "len") [Value.ref _]) _ _ _); refine' len_list (Fr.lst ?f ?l) ?z ?_; (case f => k_asm); (case l => assumption); (case z => (simp only [List.size_toArray]; omega)); (simp only [List.size_toArray])) | (k_here; (with_reducible show wpAny _ _ (subscriptTail _ _ (Value.str _ _) (Value.int _ _)) _ _ _); refine' str_at ?h0 ?h1 ?h2 ?_ ?h3; (case h0 => first | (with_reducible rfl) | (with_reducible assumption) | omega); (case h1 => first | (with_reducible rfl) | (with_reducible assumption) | omega); (case h2 => first | (with_reducible rfl) | (with_reducible assumption) | omega); (case h3 => with_unfolding_all rfl)) | (dsimp only; walk1) | (leave1; walk_say "STEP leave1"; try dsimp only) | fail "no step")
  · rw [signOf_1 k (by assumption)] at hret
    exact hret _ _ _ (by assumption) (by assumption)
  · rw [signOf_2 k (by assumption)] at hret
    exact hret _ _ _ (by assumption) (by assumption)
theorem pick_s (x : Str) (tx : Tok) (k : Int) (tq : Tok) (news : List (Addr × Obj)) (hx : 0 < x.length) (hx2 : x.length ≤ 100)
    (B : Below A₀ base outer h₀) (F : Fr h₀ L s.heap m) (X : (KA w.params).In h₀)
    (N : News h₀ L s.heap news)
    (T : Top p loose mean mg mb h₀) (hk : cs.kind = .function) (hd : dp + 20 < recursionLimit) (hu : un + 160 < cLine)
    (hret : ∀ h' tk' t', Fr h₀ L h' m → News h₀ L h' news → Q (.str (Txt.item x (k.fmod x.length)) t') { s with heap := h', toks := tk' }) :
    wpAny (model prog0 w) (ktrTop dp un gd cn cs L a ccd cl outer) (call (.ref 893) [.str x tx, .int k tq]) Q E s := by
  have hf1 : 0 ≤ k.fmod (x.length : Int) := Int.fmod_nonneg_of_pos k (by omega)
  have hf2 : k.fmod (x.length : Int) < (x.length : Int) := Int.fmod_lt_of_pos k (by omega)
  have hfill : PySem.Challenge.rw_ak0021_01.name = PySem.Challenge.rw_ak0021_01.name ∧ KA = KA := by
    k_fill
    exact ⟨rfl, rfl⟩
  clear hfill
  w_on
  refine wpAny_call ?_
  k_dflt cell_enter
  rename_i g' L' h' FG' F' N' B' X' T'
  generalize s.toks + _ = tk0
  repeat' (first | (k_unfold; (try dsimp only)) | (k_end; wrow_close) | walk1 | (k_here; (with_reducible show wpAny _ _ (subscriptTail _ _ (Value.ref _) (Value.int _ _)) _ _ _); refine' item_listL (Fr.lst ?f ?l) ?h0 ?h1 ?hx ?_; (case f => k_asm); (case l => assumption); (case h0 => first | (with_reducible rfl) | (with_reducible assumption) | omega); (case h1 => first | (with_reducible rfl) | (with_reducible assumption) | omega); (case hx => assumption)) | (k_here; (with_reducible show wpAny _ _ (call (Value.builtin "len") [Value.ref _]) _ _ _); refine' len_list (Fr.lst ?f ?l) ?z ?_; (case f => k_asm); (case l => assumption); (case z => (simp only [List.size_toArray]; omega)); (simp only [List.size_toArray])) | (k_here; (with_reducible show wpAny _ _ (subscriptTail _ _ (Value.str _ _) (Value.int _ _)) _ _ _); refine' str_at ?h0 ?h1 ?h2 ?_ ?h3; (case h0 => first | (with_reducible rfl) | (with_reducible assumption) | omega); (case h1 => first | (with_reducible rfl) | (with_reducible assumption) | omega); (case h2 => first | (with_reducible rfl) | (with_reducible assumption) | omega); (case h3 => with_unfolding_all rfl)) | (dsimp only; walk1) | (leave1; walk_say "STEP leave1"; try dsimp only) | fail "no step")
  exact hret _ _ _ (by assumption) (by assumption)
theorem pick_l (l : Addr) (vs : List Value) (v : Value) (k : Int) (tq : Tok) (news : List (Addr × Obj)) (hl : h₀.IsList l vs.toArray) (hv : vs[(k.fmod vs.length).toNat]? = some v) (hn : 0 < vs.length) (hn2 : vs.length ≤ 1000)
    (B : Below A₀ base outer h₀) (F : Fr h₀ L s.heap m) (X : (KA w.params).In h₀)
    (N : News h₀ L s.heap news)
    (T : Top p loose mean mg mb h₀) (hk : cs.kind = .function) (hd : dp + 20 < recursionLimit) (hu : un + 160 < cLine)
    (hret : ∀ h' tk', Fr h₀ L h' m → News h₀ L h' news → Q v { s with heap := h', toks := tk' }) :
    wpAny (model prog0 w) (ktrTop dp un gd cn cs L a ccd cl outer) (call (.ref 893) [.ref l, .int k tq]) Q E s := by
  have hf1 : 0 ≤ k.fmod (vs.length : Int) := Int.fmod_nonneg_of_pos k (by omega)
  have hf2 : k.fmod (vs.length : Int) < (vs.length : Int) := Int.fmod_lt_of_pos k (by omega)
  have hfill : PySem.Challenge.rw_ak0021_01.name = PySem.Challenge.rw_ak0021_01.name ∧ KA = KA := by
    k_fill
    exact ⟨rfl, rfl⟩
  clear hfill
  w_on
  refine wpAny_call ?_
  k_dflt cell_enter
  rename_i g' L' h' FG' F' N' B' X' T'
  generalize s.toks + _ = tk0
  have hl' := FG'.lst hl
  clear hl
  repeat' (first | (k_unfold; (try dsimp only)) | (k_end; wrow_close) | walk1 | (k_here; (with_reducible show wpAny _ _ (subscriptTail _ _ (Value.ref _) (Value.int _ _)) _ _ _); refine' item_listL (Fr.lst ?f ?l) ?h0 ?h1 ?hx ?_; (case f => k_asm); (case l => assumption); (case h0 => first | (with_reducible rfl) | (with_reducible assumption) | omega); (case h1 => first | (with_reducible rfl) | (with_reducible assumption) | omega); (case hx => assumption)) | (k_here; (with_reducible show wpAny _ _ (call (Value.builtin "len") [Value.ref _]) _ _ _); refine' len_list (Fr.lst ?f ?l) ?z ?_; (case f => k_asm); (case l => assumption); (case z => (simp only [List.size_toArray]; omega)); (simp only [List.size_toArray])) | (k_here; (with_reducible show wpAny _ _ (subscriptTail _ _ (Value.str _ _) (Value.int _ _)) _ _ _); refine' str_at ?h0 ?h1 ?h2 ?_ ?h3; (case h0 => first | (with_reducible rfl) | (with_reducible assumption) | omega); (case h1 => first | (with_reducible rfl) | (with_reducible assumption) | omega); (case h2 => first | (with_reducible rfl) | (with_reducible assumption) | omega); (case h3 => with_unfolding_all rfl)) | (dsimp only; walk1) | (leave1; walk_say "STEP leave1"; try dsimp only) | fail "no step")
  exact hret _ _ (by assumption) (by assumption)
end
end Mine
end
section
open PySem PySem.W PyProof.Rows PySem.Calls PyProof.V PySem.Spec
set_option maxRecDepth 100000
set_option maxHeartbeats 400000
set_option linter.unusedVariables false
namespace Mine
section
variable {prog : Program} {w : World} {A : Around} {E : Value → Shared → Prop} {s : Shared} {h₀ : Heap} {L : Addr} {m : Str → Option Value} {env : Env}
/-- a tuple in the ledger as a comprehension's source -/
noncomputable def TupSrc (prog : Program) (w : World) (A : Around) (h₀ : Heap) (L : Addr) (m : Str → Option Value) (env : Env) (elt : Expr) (x : Str) (scope : Scope) (cl : List (Str × Addr)) (Fin : Shared → List Value → List (Addr × Obj) → Prop) (xv : Value) (s₁ : Shared) : Prop :=
  ∃ ax its lo k news, xv = .ref ax ∧ A.handled = none ∧ Fr h₀ L s₁.heap m ∧ News h₀ L s₁.heap news ∧ (ax, lo) ∈ news ∧ lo.cls = .type "tuple" ∧ lo.data = .seq its k ∧ its.size ≤ sizeLine ∧
    ∀ g, LCg.CompRest prog w A h₀ L m env elt x scope cl { s₁ with heap := g } (fun nw => (ax, lo) ∈ nw) (fun i v => its[i]? = some v) (Fin { s₁ with heap := g }) its.size 0 [] news
theorem comp_tuple {elt iter : Expr} {x : Str} {px : Pos} {scope : Scope} {cl : List (Str × Addr)} {pos : Pos} {Q : Value → Shared → Prop} (F₀ : Fr h₀ L s.heap m)
    (hclos : closureFor scope env = pure cl) (hcell : ∀ y ∈ scope.names, y.2 ≠ .cell) (hkind : scope.kind = .function)
    (hnames : ∀ y ∈ scope.names, y.2 = .local → scope.names.lookup y.1 = some .local) (hx : scope.names.lookup x = some .local)
    (h : wpAny (model prog w) A (eval iter env) (TupSrc prog w A h₀ L m env elt x scope cl (fun s₂ => LCg.FinE h₀ L m s₂ Q)) E s)
    (hs : ∀ x, foldedSetIterable iter env x = pure x := by intro _; rfl) :
    wpAny (model prog w) A (eval (.ListComp elt [⟨.Name x px, iter, [], 0⟩] scope pos) env) Q E s := by
  rw [eval_ListComp]
  refine wpAny_comprehension_free (use := none) rfl hs hclos hkind hnames (wpAny_mono h (fun xv s₁ h₁ => ?_) fun _ _ e => e)
  obtain ⟨ax, its, lo, k, news, rfl, hh, F, N, hm, hc, hd, hsz, R⟩ := h₁
  have hax := N _ hm
  have hl : s₁.heap.IsTuple ax its := ⟨lo, hax.1, hc, k, hd⟩
  have hlt : ax < s₁.heap.objs.size := Heap.lt_size hax.1
  refine wpAny_pyIter_tuple hl ?_
  have up : ∀ b o, s₁.heap.get? b = some o → (s₁.heap.push { cls := .type "tuple_iterator", data := .fields #[.ref ax, .int 0 0] }).get? b = some o := fun b o e => Heap.get?_push_of_some _ e
  refine LCg.block_U (Walks.tuple hh s₁.heap.objs.size ax (Nat.ne_of_lt hlt) its) hsz (fun i h st => by obtain ⟨o, e, _⟩ := st.1; exact ⟨o, e⟩) ?_ hcell hkind hx ⟨⟨_, Heap.get?_push_size _ rfl, rfl, rfl⟩, ⟨lo, up _ _ hax.1, hc, k, hd⟩⟩ (fun b hb => ?_)
    (F.keeps up) (N.grown up) (Nat.ne_of_lt F.ns.lt) (next_is_new F) (fun p hp => Nat.ne_of_lt (Heap.lt_size (N p hp).1)) hm (R _) ?_
  · intro i h h' o nw st e e' kk NN SS
    exact ⟨by obtain ⟨o', q, r⟩ := st.1; rw [e] at q; cases q; exact ⟨o, e', r⟩, ⟨lo, (NN _ SS).1, hc, k, hd⟩⟩
  · show b < (s₁.heap.push _).objs.size
    rw [Heap.size_push]
    rcases List.mem_cons.mp hb with rfl | hb
    · exact Nat.lt_succ_self _
    · rw [List.mem_singleton.mp hb]; exact Nat.lt_succ_of_lt hlt
  · intro D C h tk m' ys news' F' N' o1 hn hC₀ hD₀ hCL hDL hCD offC fin
    refine ⟨m', hn, fun h'' hs'' => fin D h'' tk (F'.change hs'' hCL hC₀) (fun p hp => ?_) o1⟩
    refine ⟨hs''.extBut _ _ ?_ (N' p hp).1, (N' p hp).2⟩
    rcases List.mem_cons.mp hp with rfl | hp
    · exact Ne.symm hCD
    · exact offC p hp
end
end Mine
end
section
open PySem PySem.W PyProof.Rows PySem.Calls PyProof.V PySem.Spec
set_option maxRecDepth 100000
set_option maxHeartbeats 400000
set_option linter.unusedVariables false
namespace Mine
section
variable {prog : Program} {w : World} {A : Around} {h₀ : Heap} {L : Addr} {m : Str → Option Value} {env : Env} {elt : Expr} {x : Str} {scope : Scope} {cl : List (Str × Addr)} {s : Shared} {S : List (Addr × Obj) → Prop} {P : Nat → Value → Prop} {Fin : List Value → List (Addr × Obj) → Prop}
/-- a comprehension's turns, by what holds of the ledger before each and of each element -/
theorem comp_inv {n : Nat} {news : List (Addr × Obj)} (J : Nat → List (Addr × Obj) → Prop) (R : Nat → Value → Prop)
    (turn : ∀ i nw v I oI C oC D m₂ ys h tk (E' : Value → Shared → Prop), i < n → J i nw → P i v → LCg.NsObj oC m₂ → m₂ x = some v → Fr h₀ L h m → News h₀ L h ((I, oI) :: (C, oC) :: (D, LCg.lst ys) :: nw) → LCg.Off3 I C D nw → ((@Ne Nat I C) ∧ (@Ne Nat I D) ∧ (@Ne Nat C D)) →
      wpAny (model prog w) A (eval elt (compEnvC scope cl C env)) (LCg.CompEnd h₀ L m { s with heap := h, toks := tk } I oI C oC D (LCg.lst ys) S (fun y nw' => J (i + 1) nw' ∧ R i y)) E' { s with heap := h, toks := tk })
    (fin : ∀ ys nw, J n nw → ys.length = n → (∀ i y, ys[i]? = some y → R i y) → Fin ys nw) (h0 : J 0 news) : LCg.CompRest prog w A h₀ L m env elt x scope cl s S P Fin n 0 [] news := by
  have key : ∀ (j i : Nat) (ys : List Value) (nw : List (Addr × Obj)), i + j = n → J i nw → ys.length = i → (∀ k y, ys[k]? = some y → R k y) → LCg.CompRest prog w A h₀ L m env elt x scope cl s S P Fin j i ys nw := by
    intro j
    induction j with
    | zero =>
      intro i ys nw hi hJ hl hR
      have e : i = n := by omega
      subst e
      exact LCg.CompRest.zero (fin ys nw hJ hl hR)
    | succ j ih =>
      intro i ys nw hi hJ hl hR
      refine LCg.CompRest.succ ?_
      intro v I oI C oC D m₂ h tk E' hv hC hx F N off ne
      refine wpAny_mono (turn i nw v I oI C oC D m₂ ys h tk E' (by omega) hJ hv hC hx F N off ne) (fun y s₂ hq => ?_) fun _ _ e => e
      obtain ⟨h', tk', nw', e, F', N', off', hS, hJ', hr⟩ := hq
      refine ⟨h', tk', nw', e, F', N', off', hS, ih (i + 1) _ nw' (by omega) hJ' (by rw [List.length_append, hl]; rfl) (fun k z hz => ?_)⟩
      by_cases hk : k < ys.length
      · rw [List.getElem?_append_left hk] at hz
        exact hR k z hz
      · rw [List.getElem?_append_right (Nat.le_of_not_lt hk)] at hz
        have hk0 : k - ys.length = 0 := by
          have := (List.getElem?_eq_some_iff.mp hz).1
          simp only [List.length_singleton] at this
          omega
        rw [hk0] at hz
        cases hz
        have : k = i := by omega
        subst this
        exact hr
  exact key n 0 [] news (by omega) h0 rfl (fun k y e => nomatch e)
end
theorem cons_of {α : Type} {ys : List α} {n : Nat} (h : ys.length = n + 1) : ∃ a r, ys = a :: r ∧ r.length = n := by
  cases ys with
  | nil => exact nomatch h
  | cons a r => exact ⟨a, r, rfl, Nat.succ.inj h⟩
theorem nil_of {α : Type} {ys : List α} (h : ys.length = 0) : ys = [] := List.length_eq_zero_iff.mp h
theorem ints_ten {ys : List Value} (hl : ys.length = 10) (h : ∀ (i : Nat) (y : Value), ys[i]? = some y → ∃ r t, y = Value.int r t) :
    ∃ r0 r1 r2 r3 r4 r5 r6 r7 r8 r9 t0 t1 t2 t3 t4 t5 t6 t7 t8 t9, ys = [Value.int r0 t0, Value.int r1 t1, Value.int r2 t2, Value.int r3 t3, Value.int r4 t4, Value.int r5 t5, Value.int r6 t6, Value.int r7 t7, Value.int r8 t8, Value.int r9 t9] := by
  obtain ⟨a0, y0, e0, l0⟩ := cons_of hl
  obtain ⟨a1, y1, e1, l1⟩ := cons_of l0
  obtain ⟨a2, y2, e2, l2⟩ := cons_of l1
  obtain ⟨a3, y3, e3, l3⟩ := cons_of l2
  obtain ⟨a4, y4, e4, l4⟩ := cons_of l3
  obtain ⟨a5, y5, e5, l5⟩ := cons_of l4
  obtain ⟨a6, y6, e6, l6⟩ := cons_of l5
  obtain ⟨a7, y7, e7, l7⟩ := cons_of l6
  obtain ⟨a8, y8, e8, l8⟩ := cons_of l7
  obtain ⟨a9, y9, e9, l9⟩ := cons_of l8
  have e := nil_of l9
  subst e
  subst e9
  subst e8
  subst e7
  subst e6
  subst e5
  subst e4
  subst e3
  subst e2
  subst e1
  subst e0
  obtain ⟨r0, t0, rfl⟩ := h 0 a0 rfl
  obtain ⟨r1, t1, rfl⟩ := h 1 a1 rfl
  obtain ⟨r2, t2, rfl⟩ := h 2 a2 rfl
  obtain ⟨r3, t3, rfl⟩ := h 3 a3 rfl
  obtain ⟨r4, t4, rfl⟩ := h 4 a4 rfl
  obtain ⟨r5, t5, rfl⟩ := h 5 a5 rfl
  obtain ⟨r6, t6, rfl⟩ := h 6 a6 rfl
  obtain ⟨r7, t7, rfl⟩ := h 7 a7 rfl
  obtain ⟨r8, t8, rfl⟩ := h 8 a8 rfl
  obtain ⟨r9, t9, rfl⟩ := h 9 a9 rfl
  exact ⟨r0, r1, r2, r3, r4, r5, r6, r7, r8, r9, t0, t1, t2, t3, t4, t5, t6, t7, t8, t9, rfl⟩
theorem strs_two {ys : List Value} {P : Str → Prop} (hl : ys.length = 2) (h : ∀ (i : Nat) (y : Value), ys[i]? = some y → ∃ x t, y = Value.str x t ∧ P x) :
    ∃ x0 x1 t0 t1, ys = [Value.str x0 t0, Value.str x1 t1] ∧ P x0 ∧ P x1 := by
  obtain ⟨a0, y0, e0, l0⟩ := cons_of hl
  obtain ⟨a1, y1, e1, l1⟩ := cons_of l0
  have e := nil_of l1
  subst e
  subst e1
  subst e0
  obtain ⟨x0, t0, rfl, p0⟩ := h 0 a0 rfl
  obtain ⟨x1, t1, rfl, p1⟩ := h 1 a1 rfl
  exact ⟨x0, x1, t0, t1, rfl, p0, p1⟩
theorem strs_three {ys : List Value} {P : Str → Prop} (hl : ys.length = 3) (h : ∀ (i : Nat) (y : Value), ys[i]? = some y → ∃ x t, y = Value.str x t ∧ P x) :
    ∃ x0 x1 x2 t0 t1 t2, ys = [Value.str x0 t0, Value.str x1 t1, Value.str x2 t2] ∧ P x0 ∧ P x1 ∧ P x2 := by
  obtain ⟨a0, y0, e0, l0⟩ := cons_of hl
  obtain ⟨a1, y1, e1, l1⟩ := cons_of l0
  obtain ⟨a2, y2, e2, l2⟩ := cons_of l1
  have e := nil_of l2
  subst e
  subst e2
  subst e1
  subst e0
  obtain ⟨x0, t0, rfl, p0⟩ := h 0 a0 rfl
  obtain ⟨x1, t1, rfl, p1⟩ := h 1 a1 rfl
  obtain ⟨x2, t2, rfl, p2⟩ := h 2 a2 rfl
  exact ⟨x0, x1, x2, t0, t1, t2, rfl, p0, p1, p2⟩
end Mine
end
section
open PySem PySem.W PyProof.Rows PySem.Calls
set_option maxRecDepth 100000
set_option maxHeartbeats 4000000
set_option linter.unusedVariables false
namespace Mine
/-! the plain law: what the searches answer on a word with a known ending -/
noncomputable def codes (c : Str) : List Nat := c.cps.toList
theorem codes_len (c : Str) : (codes c).length = c.length := by simp [codes, Str.length]
theorem codes_app (x y : Str) : codes (x ++ y) = codes x ++ codes y := by
  show (x.cps ++ y.cps).toList = _
  simp [codes]
theorem codes_inj {x y : Str} (h : codes x = codes y) : x = y := by
  cases x
  cases y
  simp only [codes, Array.toList_inj] at h
  rw [h]
theorem codes_getD (c : Str) (j : Nat) : c.cps.getD j 0 = (codes c).getD j 0 := by
  simp [codes, Array.getD_eq_getD_getElem?, List.getD_eq_getElem?_getD]
noncomputable def innP : List Nat → List Nat → Nat → Option (Bool × Nat)
  | [], _, cm => some (false, cm)
  | _ :: _, [], _ => none
  | a :: e, b :: t, cm => if b = a then innP e t (cm + 1) else some (decide (b < a), cm)
noncomputable abbrev PRow := List Nat × Int
noncomputable def pr (r : AmRow) : PRow := ((codes r.s).reverse, r.i)
noncomputable def cmpP (rows : List PRow) (t : List Nat) (k cm : Nat) : Option (Bool × Nat) :=
  match rows[k]? with
  | none => none
  | some r => innP (r.1.drop cm) (t.drop cm) cm
noncomputable def chainP (rows : List PRow) (ci : Nat) : Nat → Nat → Option (Option Nat)
  | 0, _ => none
  | f + 1, i => match rows[i]? with
    | none => none
    | some r => if r.1.length ≤ ci then some (some r.1.length) else if r.2 < 0 then some none else chainP rows ci f r.2.toNat
noncomputable def find (rows : List PRow) (n : Nat) (t : List Nat) : Option (Option Nat) :=
  match bs (cmpP rows t) 12 0 n 0 0 false with
  | none => none
  | some (ri, rc) => chainP rows rc 12 ri
theorem ordAt_rev (s : Str) (cm : Nat) (h : cm < s.length) : ordAt s ((s.length : Int) - 1 - cm) = (((codes s).reverse.getD cm 0 : Nat) : Int) := by
  unfold ordAt
  have e : ((s.length : Int) - 1 - cm).toNat = s.length - 1 - cm := by omega
  have hl := codes_len s
  rw [e, codes_getD, List.getD_eq_getElem?_getD, List.getD_eq_getElem?_getD, List.getElem?_reverse (by omega), hl]
theorem innP_ok (s c : Str) (lb : Int) (t q : List Nat) (hE : (codes c).reverse = t ++ q) (hlb : lb + t.length ≤ c.length) (b : Bool) (cm' : Nat) :
    ∀ f cm, s.length - cm = f → innP ((codes s).reverse.drop cm) (t.drop cm) cm = some (b, cm') → (decide ((inn s c c.length lb f cm).1 < 0), (inn s c c.length lb f cm).2) = (b, cm') := by
  intro f
  induction f with
  | zero =>
    intro cm h e
    have hl : (codes s).reverse.length = s.length := by rw [List.length_reverse, codes_len]
    rw [List.drop_eq_nil_of_le (by omega)] at e
    simp only [innP, Option.some.injEq, Prod.mk.injEq] at e
    obtain ⟨e1, e2⟩ := e
    subst e1 e2
    rfl
  | succ f ih =>
    intro cm h e
    have hl : (codes s).reverse.length = s.length := by rw [List.length_reverse, codes_len]
    have hs : (codes s).reverse.drop cm = (codes s).reverse.getD cm 0 :: (codes s).reverse.drop (cm + 1) := by
      rw [List.drop_eq_getElem_cons (by omega), List.getD_eq_getElem?_getD, List.getElem?_eq_getElem (by omega)]
      rfl
    rw [hs] at e
    by_cases ht : cm < t.length
    · have hc : t.drop cm = t.getD cm 0 :: t.drop (cm + 1) := by
        rw [List.drop_eq_getElem_cons ht, List.getD_eq_getElem?_getD, List.getElem?_eq_getElem ht]
        rfl
      rw [hc] at e
      have hcl : t.length + q.length = c.length := by rw [← List.length_append, ← hE, List.length_reverse, codes_len]
      have h1 : ordAt c ((c.length : Int) - 1 - cm) = ((t.getD cm 0 : Nat) : Int) := by
        rw [ordAt_rev c cm (by omega), hE, List.getD_eq_getElem?_getD, List.getD_eq_getElem?_getD, List.getElem?_append_left ht]
      have h2 := ordAt_rev s cm (by omega)
      rw [inn, if_neg (by omega), h1, h2]
      rw [innP] at e
      by_cases hx : t.getD cm 0 = (codes s).reverse.getD cm 0
      · rw [if_pos hx] at e
        rw [if_neg (by omega)]
        exact ih (cm + 1) (by omega) e
      · rw [if_neg hx] at e
        rw [if_pos (by omega)]
        simp only [Option.some.injEq, Prod.mk.injEq] at e
        obtain ⟨e1, e2⟩ := e
        subst e1 e2
        simp only [Prod.mk.injEq, and_true, decide_eq_decide]
        omega
    · rw [List.drop_eq_nil_of_le (by omega : t.length ≤ cm)] at e
      exact nomatch e
theorem cmpP_ok (rows : List AmRow) (c : Str) (lb : Int) (t q : List Nat) (hE : (codes c).reverse = t ++ q) (hlb : lb + t.length ≤ c.length) (k cm : Nat) (x : Bool × Nat) (h : cmpP (rows.map pr) t k cm = some x) : cmpT rows c c.length lb k cm = some x := by
  unfold cmpP at h
  unfold cmpT
  rw [List.getElem?_map] at h
  cases e : rows[k]? with
  | none => rw [e] at h; exact nomatch h
  | some r =>
    rw [e] at h
    exact congrArg some (innP_ok r.s c lb t q hE hlb x.1 x.2 (r.s.length - cm) cm rfl h)
theorem ite_imp {α : Type} {P : Prop} [Decidable P] {A B A' B' R : α} (h : (if P then A else B) = R) (h1 : A = R → A' = R) (h2 : B = R → B' = R) : (if P then A' else B') = R := by
  by_cases hp : P
  · rw [if_pos hp] at h ⊢; exact h1 h
  · rw [if_neg hp] at h ⊢; exact h2 h
theorem bs_mono {p q : Nat → Nat → Option (Bool × Nat)} (h : ∀ k cm x, p k cm = some x → q k cm = some x) (R : Nat × Nat) : ∀ f i j ci cj fk, bs p f i j ci cj fk = some R → bs q f i j ci cj fk = some R := by
  intro f
  induction f with
  | zero => intro i j ci cj fk e; exact nomatch e
  | succ f ih =>
    intro i j ci cj fk e
    rw [bs] at e ⊢
    cases hp : p (i + (j - i) / 2) (min ci cj) with
    | none => rw [hp] at e; exact nomatch e
    | some x =>
      rw [hp] at e
      rw [h _ _ _ hp]
      obtain ⟨b, cm⟩ := x
      cases b
      · exact ite_imp e (fun e => ite_imp e id (fun e => ite_imp e id (fun e => ite_imp e id (ih _ _ _ _ _)))) (ih _ _ _ _ _)
      · exact ite_imp e (fun e => ite_imp e id (fun e => ite_imp e id (fun e => ite_imp e id (ih _ _ _ _ _)))) (ih _ _ _ _ _)
theorem chainP_ok (rows : List AmRow) (ci : Nat) (res : Option Nat) : ∀ f i, chainP (rows.map pr) ci f i = some res → chain rows ci f i = some res := by
  intro f
  induction f with
  | zero => intro i e; exact nomatch e
  | succ f ih =>
    intro i e
    rw [chainP, List.getElem?_map] at e
    rw [chain]
    cases hr : rows[i]? with
    | none => rw [hr] at e; exact nomatch e
    | some r =>
      rw [hr] at e
      dsimp only [Option.map_some, pr] at e ⊢
      rw [List.length_reverse, codes_len] at e
      by_cases h1 : r.s.length ≤ ci
      · rw [if_pos h1] at e ⊢; exact e
      · rw [if_neg h1] at e ⊢
        by_cases h2 : r.i < 0
        · rw [if_pos h2] at e ⊢; exact e
        · rw [if_neg h2] at e ⊢; exact ih _ e
theorem find_ok (rows : List AmRow) (P : List PRow) (hP : rows.map pr = P) (n : Nat) (hn : rows.length = n) (c : Str) (lb : Int) (t q : List Nat) (res : Option Nat) (h : find P n t = some res) (hE : (codes c).reverse = t ++ q) (hlb : lb + t.length ≤ c.length) : Finds rows c c.length lb res := by
  subst hP hn
  unfold find at h
  cases e : bs (cmpP (rows.map pr) t) 12 0 rows.length 0 0 false with
  | none => rw [e] at h; exact nomatch h
  | some R =>
    rw [e] at h
    obtain ⟨ri, rc⟩ := R
    exact ⟨12, ri, rc, 12, bs_mono (cmpP_ok rows c lb t q hE hlb) _ _ _ _ _ _ _ e, chainP_ok rows rc res 12 ri h⟩
/-- the nine last signs -/
noncomputable def lasts : List Nat := [1382, 1386, 1389, 1393, 1395, 1399, 1404, 1411, 1414]
noncomputable def okN (t : List Nat) (res : Option Nat) : Bool := match res with | none => true | some n => decide (0 < n) && decide (n ≤ t.length)
/-- the search's answer on a known ending, whatever the sign before it among the nine -/
noncomputable def findA (P : List PRow) (n : Nat) (t : List Nat) : Option (Option Nat) :=
  match find P n t with
  | some r => if okN t r then some r else none
  | none => match find P n (t ++ [1382]) with
    | none => none
    | some r => if okN t r && lasts.all (fun L => find P n (t ++ [L]) == some r) then some r else none
theorem findA_ok {P : List PRow} {n : Nat} {t : List Nat} {r : Option Nat} (h : findA P n t = some r) : okN t r = true ∧ (find P n t = some r ∨ ∀ L, L ∈ lasts → find P n (t ++ [L]) = some r) := by
  unfold findA at h
  cases e : find P n t with
  | some x =>
    rw [e] at h
    dsimp only at h
    split at h
    · cases h; exact ⟨by assumption, .inl rfl⟩
    · exact nomatch h
  | none =>
    rw [e] at h
    dsimp only at h
    cases e2 : find P n (t ++ [1382]) with
    | none => rw [e2] at h; exact nomatch h
    | some x =>
      rw [e2] at h
      dsimp only at h
      split at h
      · cases h
        rename_i hh
        rw [Bool.and_eq_true] at hh
        refine ⟨hh.1, .inr fun L hL => ?_⟩
        exact eq_of_beq (List.all_eq_true.mp hh.2 L hL)
      · exact nomatch h
/-- what holds of the root -/
structure Root (r : Str) (p : List Nat) (V C V' L : Nat) : Prop where
  co : codes r = p ++ [V, C, V', L]
  v1 : isV ⟨#[V]⟩ = true
  v2 : isV ⟨#[C]⟩ = false
  v3 : isV ⟨#[V']⟩ = true
  v4 : isV ⟨#[L]⟩ = false
  la : L ∈ lasts
theorem first_at (q : Nat → Bool) (a : Nat) : ∀ d, q (a + d) = true → ∃ k, a ≤ k ∧ k ≤ a + d ∧ (∀ j, a ≤ j → j < k → q j = false) ∧ q k = true := by
  intro d
  induction d using Nat.strongRecOn with
  | ind d ih =>
    intro h
    by_cases hx : ∃ e, e < d ∧ q (a + e) = true
    · obtain ⟨e, he, hq⟩ := hx
      obtain ⟨k, h1, h2, h3, h4⟩ := ih e he hq
      exact ⟨k, h1, by omega, h3, h4⟩
    · refine ⟨a + d, by omega, Nat.le_refl _, fun j h1 h2 => ?_, h⟩
      rw [Bool.eq_false_iff]
      intro hj
      exact hx ⟨j - a, by omega, by rw [Nat.add_sub_cancel' h1]; exact hj⟩
theorem sgn_at {c : Str} {p s : List Nat} {x : Nat} (h : codes c = p ++ x :: s) (j : Int) (hj : j = p.length) : sgn c j = ⟨#[x]⟩ := by
  subst hj
  unfold sgn
  rw [Int.toNat_natCast, codes_getD, h]
  simp
theorem fa {k p d : Nat} (h : k ≤ p + d) : k + 1 + (p + d - k) = p + d + 1 := by omega
theorem fb {k r p d : Nat} (h : k ≤ p + d) (hr : r = p + 4) (hd : d ≤ 3) : k < r := by omega
theorem fc {k r p : Nat} (h : k ≤ p) (hr : r = p + 4) : k + 3 < r := by omega
theorem klt {k p e c d : Nat} (hb : k ≤ p + d) (hd : d ≤ 3) (hl : c = p + 4 + e) : (k : Int) < (c : Int) := by omega
theorem marks_ex {r c : Str} {p e : List Nat} {V C V' L : Nat} (R : Root r p V C V' L) (hc : codes c = codes r ++ e) : ∃ k1 k2 k3 k4, Marks c k1 k2 k3 k4 ∧ k1 + 3 < r.length ∧ k4 < r.length := by
  have hl : c.length = p.length + 4 + e.length := by rw [← codes_len, hc, R.co]; simp; omega
  have hr : r.length = p.length + 4 := by rw [← codes_len, R.co]; simp
  have hc' := hc
  rw [R.co] at hc'
  have s0 : sgn c ((p.length : Nat) : Int) = ⟨#[V]⟩ := sgn_at (p := p) (s := C :: V' :: L :: e) (by rw [hc']; simp) _ rfl
  have s1 : sgn c ((p.length + 1 : Nat) : Int) = ⟨#[C]⟩ := sgn_at (p := p ++ [V]) (s := V' :: L :: e) (by rw [hc']; simp) _ (by simp)
  have s2 : sgn c ((p.length + 2 : Nat) : Int) = ⟨#[V']⟩ := sgn_at (p := p ++ [V, C]) (s := L :: e) (by rw [hc']; simp) _ (by simp)
  have s3 : sgn c ((p.length + 3 : Nat) : Int) = ⟨#[L]⟩ := sgn_at (p := p ++ [V, C, V']) (s := e) (by rw [hc']; simp) _ (by simp)
  obtain ⟨k1, a1, b1, n1, y1⟩ := first_at (fun j => isV (sgn c (j : Int))) 0 p.length (by rw [Nat.zero_add]; show isV (sgn c ((p.length : Nat) : Int)) = true; rw [s0]; exact R.v1)
  have c1 : k1 ≤ p.length := by rw [Nat.zero_add] at b1; exact b1
  have g1 : k1 + 1 + (p.length - k1) = p.length + 1 := fa (d := 0) c1
  obtain ⟨k2, a2, b2, n2, y2⟩ := first_at (fun j => !isV (sgn c (j : Int))) (k1 + 1) (p.length - k1) (by
    rw [g1]
    show (!isV (sgn c ((p.length + 1 : Nat) : Int))) = true
    rw [s1, R.v2]; rfl)
  have c2 : k2 ≤ p.length + 1 := by rw [g1] at b2; exact b2
  have g2 : k2 + 1 + (p.length + 1 - k2) = p.length + 2 := fa (d := 1) c2
  obtain ⟨k3, a3, b3, n3, y3⟩ := first_at (fun j => isV (sgn c (j : Int))) (k2 + 1) (p.length + 1 - k2) (by
    rw [g2]
    show isV (sgn c ((p.length + 2 : Nat) : Int)) = true
    rw [s2, R.v3])
  have c3 : k3 ≤ p.length + 2 := by rw [g2] at b3; exact b3
  have g3 : k3 + 1 + (p.length + 2 - k3) = p.length + 3 := fa (d := 2) c3
  obtain ⟨k4, a4, b4, n4, y4⟩ := first_at (fun j => !isV (sgn c (j : Int))) (k3 + 1) (p.length + 2 - k3) (by
    rw [g3]
    show (!isV (sgn c ((p.length + 3 : Nat) : Int))) = true
    rw [s3, R.v4]; rfl)
  have c4 : k4 ≤ p.length + 3 := by rw [g3] at b4; exact b4
  clear b1 b2 b3 b4
  refine ⟨k1, k2, k3, k4, ⟨⟨Int.le_refl _, Int.natCast_nonneg _, klt (d := 0) c1 (by decide) hl, fun j h1 h2 => n1 j (Nat.zero_le _) h2, y1⟩,
    ⟨Int.natCast_nonneg (k1 + 1), Int.ofNat_le.mpr a2, klt (d := 1) c2 (by decide) hl, fun j h1 h2 => ?_, ?_⟩,
    ⟨Int.natCast_nonneg (k2 + 1), Int.ofNat_le.mpr a3, klt (d := 2) c3 (by decide) hl, fun j h1 h2 => n3 j (Int.ofNat_le.mp h1) h2, y3⟩,
    ⟨Int.natCast_nonneg (k3 + 1), Int.ofNat_le.mpr a4, klt (d := 3) c4 (by decide) hl, fun j h1 h2 => ?_, ?_⟩⟩, ?_, ?_⟩
  · have := n2 j (Int.ofNat_le.mp h1) h2; simpa using this
  · simpa using y2
  · have := n4 j (Int.ofNat_le.mp h1) h2; simpa using this
  · simpa using y4
  · exact fc c1 hr
  · exact fb (d := 3) c4 hr (by decide)
theorem cut_is (c : Str) (n : Nat) (h : n ≤ c.length) : codes (cutL c (some n)) = (codes c).take (c.length - n) := by
  show codes (dl c ((c.length : Int) - n) c.length) = _
  rw [dl_is c (by omega) (by omega) rfl]
  have : ((c.length : Int) - n).toNat = c.length - n := by omega
  rw [this]
  rfl
theorem cut_st {r c : Str} {t : List Nat} {res : Option Nat} (hc : codes c = codes r ++ t.reverse) (ho : okN t res = true) : codes (cutL c res) = codes r ++ (t.drop (res.getD 0)).reverse := by
  cases res with
  | none => exact hc
  | some n =>
    unfold okN at ho
    simp only [Bool.and_eq_true, decide_eq_true_eq] at ho
    have hl : c.length = r.length + t.length := by rw [← codes_len, hc, List.length_append, List.length_reverse, codes_len]
    rw [cut_is c n (by omega), hc, List.take_append, codes_len]
    show _ = codes r ++ (t.drop n).reverse
    rw [List.take_of_length_le (by rw [codes_len]; omega), List.reverse_drop]
    congr 2
    omega
theorem cuts_of {rows : List AmRow} {P : List PRow} {n : Nat} (hP : rows.map pr = P) (hn : rows.length = n) {r c : Str} {p t : List Nat} {V C V' L : Nat} {lb : Int} {res : Option Nat} (R : Root r p V C V' L) (hc : codes c = codes r ++ t.reverse) (hlb : lb + 1 ≤ r.length)
    (ho : okN t res = true) (h : (∃ u v, t = u ++ v ∧ find P n u = some res) ∨ ∀ L, L ∈ lasts → find P n (t ++ [L]) = some res) : Cuts rows c lb res := by
  have hl : c.length = r.length + t.length := by rw [← codes_len, hc, List.length_append, List.length_reverse, codes_len]
  have hcr : (codes c).reverse = t ++ (codes r).reverse := by rw [hc]; simp
  refine ⟨?_, fun k e => ?_⟩
  · rcases h with ⟨u, v, rfl, hu⟩ | h
    · exact find_ok rows P hP n hn c lb u (v ++ (codes r).reverse) res hu (by rw [hcr, List.append_assoc]) (by rw [List.length_append] at hl; omega)
    · exact find_ok rows P hP n hn c lb (t ++ [L]) (p ++ [V, C, V']).reverse res (h L R.la) (by rw [hcr, R.co]; simp) (by rw [List.length_append, List.length_singleton]; omega)
  · subst e
    unfold okN at ho
    simp only [Bool.and_eq_true, decide_eq_true_eq] at ho
    exact ⟨ho.1, by omega⟩
noncomputable def P0 : List PRow := (([1380, 1408, 1400, 1408], -1) :: ([1380, 1408, 1400, 1408, 1381], 0) :: ([1387, 1388, 1377], -1) :: ([1387, 1391, 1377], -1) :: ([1391, 1377, 1408, 1400], -1) :: ([1394, 1381], -1) :: ([1398, 1377, 1391, 1377], -1) :: ([1398, 1377, 1408, 1377], -1) :: ([1398, 1381], -1) :: ([1398, 1381, 1391, 1381], 8) :: ([1398, 1381, 1408, 1381], 8) :: ([1398, 1383, 1408, 1400], -1) :: ([1398, 1387], -1) :: ([1398, 1387, 1379], 12) :: ([1398, 1387, 1406, 1400], 12) :: ([1398, 1397, 1377, 1388], -1) :: ([1398, 1410, 1400, 1406], -1) :: ([1405, 1381, 1402], -1) :: ([1406, 1387], -1) :: ([1407, 1377], -1) :: ([1407, 1381, 1406, 1377], -1) :: ([1407, 1400, 1391], -1) :: ([1408, 1377, 1378], -1) :: [])
theorem P0_eq : tab0.map pr = P0 := by decide +kernel
theorem P0_len : tab0.length = 23 := by decide +kernel
noncomputable def P1 : List PRow := (([1377], -1) :: ([1377, 1409, 1377], 0) :: ([1377, 1409, 1381], 0) :: ([1381, 1406], -1) :: ([1387, 1408, 1409, 1377], -1) :: ([1387, 1409, 1377], -1) :: ([1387, 1409, 1381], -1) :: ([1387, 1409, 1381, 1406], 6) :: ([1388, 1377], -1) :: ([1388, 1377, 1384], 8) :: ([1388, 1377, 1398, 1377], 8) :: ([1388, 1377, 1398, 1381], 8) :: ([1388, 1377, 1398, 1409, 1377], 8) :: ([1388, 1381], -1) :: ([1388, 1381, 1384], 13) :: ([1388, 1381, 1398], 13) :: ([1388, 1381, 1398, 1409], 15) :: ([1388, 1381, 1398, 1409, 1381], 16) :: ([1388, 1381, 1401], 13) :: ([1388, 1381, 1406], 13) :: ([1388, 1381, 1406, 1409, 1377], 19) :: ([1388, 1381, 1406, 1409, 1381], 19) :: ([1388, 1381, 1407], 13) :: ([1388, 1381, 1407, 1377], 22) :: ([1388, 1381, 1407, 1400], 22) :: ([1388, 1381, 1407, 1400, 1391], 24) :: ([1390, 1377, 1406], -1) :: ([1396, 1410, 1400], -1) :: ([1396, 1410, 1400, 1406], 27) :: ([1398, 1377], -1) :: ([1398, 1377, 1409], 29) :: ([1398, 1377, 1409, 1377], 30) :: ([1398, 1387, 1408, 1409, 1377], -1) :: ([1398, 1387, 1409, 1377], -1) :: ([1398, 1387, 1409, 1381], -1) :: ([1398, 1387, 1409, 1381, 1406], 34) :: ([1405, 1387, 1388, 1377], -1) :: ([1405, 1387, 1388, 1381], -1) :: ([1406, 1377], -1) :: ([1406, 1377, 1409, 1377], 38) :: ([1406, 1377, 1409, 1381], 38) :: ([1406, 1400, 1388, 1377], -1) :: ([1406, 1400, 1388, 1381], -1) :: ([1408, 1377], -1) :: ([1408, 1377, 1409, 1377], 43) :: ([1408, 1377, 1409, 1381], 43) :: ([1408, 1387, 1408, 1409, 1377], -1) :: ([1408, 1387, 1409, 1377], -1) :: ([1408, 1387, 1409, 1381], -1) :: ([1408, 1387, 1409, 1381, 1406], 48) :: ([1409, 1377], -1) :: ([1409, 1381], -1) :: ([1409, 1381, 1408, 1409, 1377], 51) :: ([1409, 1410, 1400, 1388, 1377], -1) :: ([1409, 1410, 1400, 1388, 1381], -1) :: ([1410, 1400, 1388, 1377], -1) :: ([1410, 1400, 1388, 1381], -1) :: ([1412, 1377], -1) :: ([1412, 1377, 1409], 57) :: ([1412, 1377, 1409, 1377], 58) :: ([1412, 1387, 1408, 1409, 1377], -1) :: ([1412, 1387, 1409, 1377], -1) :: ([1412, 1387, 1409, 1381], -1) :: ([1412, 1387, 1409, 1381, 1406], 62) :: ([1412, 1398, 1377], -1) :: ([1412, 1398, 1377, 1409], 64) :: ([1412, 1398, 1377, 1409, 1377], 65) :: ([1412, 1398, 1387, 1408, 1409, 1377], -1) :: ([1412, 1398, 1387, 1409, 1377], -1) :: ([1412, 1398, 1387, 1409, 1381], -1) :: ([1412, 1398, 1387, 1409, 1381, 1406], 69) :: [])
theorem P1_eq : tab1.map pr = P1 := by decide +kernel
theorem P1_len : tab1.length = 71 := by decide +kernel
noncomputable def P2 : List PRow := (([1380, 1408, 1400], -1) :: ([1385, 1397, 1410, 1400], -1) :: ([1387, 1392, 1410, 1400], -1) :: ([1387, 1409], -1) :: ([1388, 1387], -1) :: ([1391, 1377], -1) :: ([1391, 1377, 1397], 5) :: ([1391, 1377, 1398, 1377], 5) :: ([1391, 1387], -1) :: ([1391, 1410, 1400], -1) :: ([1398, 1377], -1) :: ([1398, 1377, 1402], 10) :: ([1398, 1377, 1407, 1405], 10) :: ([1398, 1377, 1408, 1377], 10) :: ([1398, 1383, 1394, 1381], -1) :: ([1398, 1410, 1400, 1397], -1) :: ([1398, 1410, 1400, 1397, 1385, 1410, 1400], 15) :: ([1400, 1390, 1377], -1) :: ([1401, 1387], -1) :: ([1405, 1410, 1400], -1) :: ([1407, 1405, 1410, 1400], -1) :: ([1408, 1377, 1379], -1) :: ([1408, 1400, 1406], -1) :: ([1408, 1400, 1406, 1377], 22) :: ([1409, 1400], -1) :: ([1409, 1413, 1398, 1377], -1) :: ([1410, 1400], -1) :: ([1412], -1) :: ([1412, 1381, 1401], 27) :: ([1412, 1387], 27) :: ([1412, 1387, 1388, 1377], 29) :: ([1412, 1387, 1398, 1377], 29) :: ([1412, 1390, 1377, 1406], 27) :: ([1412, 1397, 1410, 1400], 27) :: ([1412, 1398, 1381], 27) :: ([1412, 1398, 1400], 27) :: ([1412, 1398, 1410, 1400], 27) :: ([1412, 1398, 1410, 1400, 1396], 36) :: ([1412, 1401, 1387], 27) :: ([1412, 1408, 1377], 27) :: [])
theorem P2_eq : tab2.map pr = P2 := by decide +kernel
theorem P2_len : tab2.length = 40 := by decide +kernel
noncomputable def P3 : List PRow := (([1377, 1405], -1) :: ([1377, 1406], -1) :: ([1378, 1396, 1377], -1) :: ([1380], -1) :: ([1380, 1398, 1377], 3) :: ([1380, 1398, 1377, 1397, 1385, 1410, 1400], 4) :: ([1380, 1398, 1377, 1406], 4) :: ([1380, 1403, 1400], 3) :: ([1380, 1408, 1381], 3) :: ([1380, 1408, 1381, 1398], 8) :: ([1380, 1410, 1400], 3) :: ([1384], -1) :: ([1384, 1398, 1377], 11) :: ([1384, 1398, 1377, 1397, 1385, 1410, 1400], 12) :: ([1384, 1398, 1377, 1406], 12) :: ([1384, 1403, 1400], 11) :: ([1384, 1408, 1381], 11) :: ([1384, 1408, 1381, 1398], 16) :: ([1387], -1) :: ([1387, 1406], 18) :: ([1387, 1408, 1381], 18) :: ([1387, 1408, 1381, 1398], 20) :: ([1396, 1410, 1400, 1398, 1377], -1) :: ([1396, 1410, 1400, 1408, 1381], -1) :: ([1396, 1410, 1400, 1408, 1381, 1398], 23) :: ([1398], -1) :: ([1398, 1377], 25) :: ([1398, 1377, 1397, 1385, 1410, 1400], 26) :: ([1398, 1377, 1406], 26) :: ([1398, 1387], 25) :: ([1398, 1387, 1408, 1381], 29) :: ([1398, 1387, 1408, 1381, 1398], 30) :: ([1398, 1398, 1377, 1397, 1385, 1410, 1400], 25) :: ([1398, 1408, 1381], 25) :: ([1398, 1408, 1381, 1398], 33) :: ([1398, 1410, 1400], 25) :: ([1403, 1400], -1) :: ([1405, 1398, 1377, 1397, 1385, 1410, 1400], -1) :: ([1405, 1398, 1377, 1406], -1) :: ([1405, 1403, 1400], -1) :: ([1406, 1400], -1) :: ([1406, 1400, 1398, 1377], 40) :: ([1406, 1400, 1406], 40) :: ([1406, 1400, 1408, 1381], 40) :: ([1406, 1400, 1408, 1381, 1398], 43) :: ([1408, 1381], -1) :: ([1408, 1381, 1398], 45) :: ([1409], -1) :: ([1409, 1387], 47) :: ([1409, 1387, 1398, 1377, 1406], 48) :: ([1409, 1387, 1403, 1400], 48) :: ([1409, 1387, 1406], 48) :: ([1409, 1387, 1408, 1381], 48) :: ([1409, 1387, 1408, 1381, 1398], 52) :: ([1409, 1387, 1409], 48) :: ([1409, 1400], 47) :: ([1409, 1410, 1400], 47) :: [])
theorem P3_eq : tab3.map pr = P3 := by decide +kernel
theorem P3_len : tab3.length = 57 := by decide +kernel
/-- verb, adjective, noun: all comes off -/
noncomputable def tailOK (t : List Nat) : Bool :=
  match findA P1 71 t with
  | none => false
  | some r1 => match findA P0 23 (t.drop (r1.getD 0)) with
    | none => false
    | some r0 => match findA P2 40 ((t.drop (r1.getD 0)).drop (r0.getD 0)) with
      | none => false
      | some r2 => (((t.drop (r1.getD 0)).drop (r0.getD 0)).drop (r2.getD 0)).isEmpty
theorem find_or {P : List PRow} {n : Nat} {t : List Nat} {r : Option Nat} (h : findA P n t = some r) : (∃ u v, t = u ++ v ∧ find P n u = some r) ∨ ∀ L, L ∈ lasts → find P n (t ++ [L]) = some r := by
  rcases (findA_ok h).2 with h | h
  · exact .inl ⟨t, [], by simp, h⟩
  · exact .inr h
theorem stems_of {r c : Str} {p t : List Nat} {V C V' L : Nat} {r3 : Option Nat} (R : Root r p V C V' L) (hc : codes c = codes r ++ t.reverse) (ho : okN t r3 = true)
    (h3 : (∃ u v, t = u ++ v ∧ find P3 57 u = some r3) ∨ ∀ L, L ∈ lasts → find P3 57 (t ++ [L]) = some r3) (hT : tailOK (t.drop (r3.getD 0)) = true) : Stems c r := by
  obtain ⟨k1, k2, k3, k4, M, hk1, hk4⟩ := marks_ex R hc
  have hl : c.length = r.length + t.length := by rw [← codes_len, hc, List.length_append, List.length_reverse, codes_len]
  unfold tailOK at hT
  cases e1 : findA P1 71 (t.drop (r3.getD 0)) with
  | none => rw [e1] at hT; exact nomatch hT
  | some r1 =>
    rw [e1] at hT
    dsimp only at hT
    cases e0 : findA P0 23 ((t.drop (r3.getD 0)).drop (r1.getD 0)) with
    | none => rw [e0] at hT; exact nomatch hT
    | some r0 =>
      rw [e0] at hT
      dsimp only at hT
      cases e2 : findA P2 40 (((t.drop (r3.getD 0)).drop (r1.getD 0)).drop (r0.getD 0)) with
      | none => rw [e2] at hT; exact nomatch hT
      | some r2 =>
        rw [e2] at hT
        dsimp only at hT
        have c3 := cut_st hc ho
        have c1 := cut_st c3 (findA_ok e1).1
        have c0 := cut_st c1 (findA_ok e0).1
        have c2 := cut_st c0 (findA_ok e2).1
        refine ⟨⟨k1, k2, k3, k4, r3, r1, r0, r2, M, cuts_of P3_eq P3_len R hc (by omega) ho h3, fun n e => ?_, cuts_of P1_eq P1_len R c3 (by omega) (findA_ok e1).1 (find_or e1), cuts_of P0_eq P0_len R c1 (by omega) (findA_ok e0).1 (find_or e0), cuts_of P2_eq P2_len R c0 (by omega) (findA_ok e2).1 (find_or e2), ?_⟩⟩
        · subst e
          unfold okN at ho
          simp only [Bool.and_eq_true, decide_eq_true_eq] at ho
          omega
        · rw [List.isEmpty_iff.mp hT] at c2
          exact codes_inj (by rw [c2]; simp)
noncomputable def casesS : List Str := (Str.ofString "սա" :: Str.ofString "վա" :: Str.ofString "ամբ" :: Str.ofString "դ" :: Str.ofString "անդ" :: Str.ofString "ությանդ" :: Str.ofString "վանդ" :: Str.ofString "ոջդ" :: Str.ofString "երդ" :: Str.ofString "ներդ" :: Str.ofString "ուդ" :: Str.ofString "ը" :: Str.ofString "անը" :: Str.ofString "ությանը" :: Str.ofString "վանը" :: Str.ofString "ոջը" :: Str.ofString "երը" :: Str.ofString "ները" :: Str.ofString "ի" :: Str.ofString "վի" :: Str.ofString "երի" :: Str.ofString "ների" :: Str.ofString "անում" :: Str.ofString "երում" :: Str.ofString "ներում" :: Str.ofString "ն" :: Str.ofString "ան" :: Str.ofString "ության" :: Str.ofString "վան" :: Str.ofString "ին" :: Str.ofString "երին" :: Str.ofString "ներին" :: Str.ofString "ությանն" :: Str.ofString "երն" :: Str.ofString "ներն" :: Str.ofString "ուն" :: Str.ofString "ոջ" :: Str.ofString "ությանս" :: Str.ofString "վանս" :: Str.ofString "ոջս" :: Str.ofString "ով" :: Str.ofString "անով" :: Str.ofString "վով" :: Str.ofString "երով" :: Str.ofString "ներով" :: Str.ofString "եր" :: Str.ofString "ներ" :: Str.ofString "ց" :: Str.ofString "ից" :: Str.ofString "վանից" :: Str.ofString "ոջից" :: Str.ofString "վից" :: Str.ofString "երից" :: Str.ofString "ներից" :: Str.ofString "ցից" :: Str.ofString "ոց" :: Str.ofString "ուց" :: [])
noncomputable def casesC : List (List Nat) := ([1377, 1405] :: [1377, 1406] :: [1378, 1396, 1377] :: [1380] :: [1380, 1398, 1377] :: [1380, 1398, 1377, 1397, 1385, 1410, 1400] :: [1380, 1398, 1377, 1406] :: [1380, 1403, 1400] :: [1380, 1408, 1381] :: [1380, 1408, 1381, 1398] :: [1380, 1410, 1400] :: [1384] :: [1384, 1398, 1377] :: [1384, 1398, 1377, 1397, 1385, 1410, 1400] :: [1384, 1398, 1377, 1406] :: [1384, 1403, 1400] :: [1384, 1408, 1381] :: [1384, 1408, 1381, 1398] :: [1387] :: [1387, 1406] :: [1387, 1408, 1381] :: [1387, 1408, 1381, 1398] :: [1396, 1410, 1400, 1398, 1377] :: [1396, 1410, 1400, 1408, 1381] :: [1396, 1410, 1400, 1408, 1381, 1398] :: [1398] :: [1398, 1377] :: [1398, 1377, 1397, 1385, 1410, 1400] :: [1398, 1377, 1406] :: [1398, 1387] :: [1398, 1387, 1408, 1381] :: [1398, 1387, 1408, 1381, 1398] :: [1398, 1398, 1377, 1397, 1385, 1410, 1400] :: [1398, 1408, 1381] :: [1398, 1408, 1381, 1398] :: [1398, 1410, 1400] :: [1403, 1400] :: [1405, 1398, 1377, 1397, 1385, 1410, 1400] :: [1405, 1398, 1377, 1406] :: [1405, 1403, 1400] :: [1406, 1400] :: [1406, 1400, 1398, 1377] :: [1406, 1400, 1406] :: [1406, 1400, 1408, 1381] :: [1406, 1400, 1408, 1381, 1398] :: [1408, 1381] :: [1408, 1381, 1398] :: [1409] :: [1409, 1387] :: [1409, 1387, 1398, 1377, 1406] :: [1409, 1387, 1403, 1400] :: [1409, 1387, 1406] :: [1409, 1387, 1408, 1381] :: [1409, 1387, 1408, 1381, 1398] :: [1409, 1387, 1409] :: [1409, 1400] :: [1409, 1410, 1400] :: [])
theorem casesC_eq : casesS.map (fun x => (codes x).reverse) = casesC := by decide +kernel
noncomputable def pluralsS : List Str := (Str.ofString "ներդ" :: Str.ofString "ները" :: Str.ofString "ների" :: Str.ofString "ներում" :: Str.ofString "ներին" :: Str.ofString "ներն" :: Str.ofString "ներով" :: Str.ofString "ներ" :: Str.ofString "ներից" :: [])
noncomputable def pluralsC : List (List Nat) := ([1380, 1408, 1381, 1398] :: [1384, 1408, 1381, 1398] :: [1387, 1408, 1381, 1398] :: [1396, 1410, 1400, 1408, 1381, 1398] :: [1398, 1387, 1408, 1381, 1398] :: [1398, 1408, 1381, 1398] :: [1406, 1400, 1408, 1381, 1398] :: [1408, 1381, 1398] :: [1409, 1387, 1408, 1381, 1398] :: [])
theorem pluralsC_eq : pluralsS.map (fun x => (codes x).reverse) = pluralsC := by decide +kernel
noncomputable def nounsS : List Str := (Str.ofString "" :: Str.ofString "որդ" :: Str.ofString "ույթ" :: Str.ofString "ուհի" :: Str.ofString "ցի" :: Str.ofString "իլ" :: Str.ofString "ակ" :: Str.ofString "յակ" :: Str.ofString "անակ" :: Str.ofString "իկ" :: Str.ofString "ուկ" :: Str.ofString "ան" :: Str.ofString "եղէն" :: Str.ofString "յուն" :: Str.ofString "ություն" :: Str.ofString "ածո" :: Str.ofString "իչ" :: Str.ofString "ուս" :: Str.ofString "ուստ" :: Str.ofString "վոր" :: Str.ofString "ավոր" :: Str.ofString "ոց" :: Str.ofString "անօց" :: Str.ofString "ու" :: Str.ofString "ք" :: Str.ofString "չեք" :: Str.ofString "իք" :: Str.ofString "ալիք" :: Str.ofString "անիք" :: Str.ofString "վածք" :: Str.ofString "ույք" :: Str.ofString "ենք" :: Str.ofString "ոնք" :: Str.ofString "ունք" :: Str.ofString "մունք" :: Str.ofString "իչք" :: Str.ofString "արք" :: [])
noncomputable def nounsC : List (List Nat) := ([] :: [1380, 1408, 1400] :: [1385, 1397, 1410, 1400] :: [1387, 1392, 1410, 1400] :: [1387, 1409] :: [1388, 1387] :: [1391, 1377] :: [1391, 1377, 1397] :: [1391, 1377, 1398, 1377] :: [1391, 1387] :: [1391, 1410, 1400] :: [1398, 1377] :: [1398, 1383, 1394, 1381] :: [1398, 1410, 1400, 1397] :: [1398, 1410, 1400, 1397, 1385, 1410, 1400] :: [1400, 1390, 1377] :: [1401, 1387] :: [1405, 1410, 1400] :: [1407, 1405, 1410, 1400] :: [1408, 1400, 1406] :: [1408, 1400, 1406, 1377] :: [1409, 1400] :: [1409, 1413, 1398, 1377] :: [1410, 1400] :: [1412] :: [1412, 1381, 1401] :: [1412, 1387] :: [1412, 1387, 1388, 1377] :: [1412, 1387, 1398, 1377] :: [1412, 1390, 1377, 1406] :: [1412, 1397, 1410, 1400] :: [1412, 1398, 1381] :: [1412, 1398, 1400] :: [1412, 1398, 1410, 1400] :: [1412, 1398, 1410, 1400, 1396] :: [1412, 1401, 1387] :: [1412, 1408, 1377] :: [])
theorem nounsC_eq : nounsS.map (fun x => (codes x).reverse) = nounsC := by decide +kernel
noncomputable def adjectivesS : List Str := (Str.ofString "" :: Str.ofString "րորդ" :: Str.ofString "երորդ" :: Str.ofString "ալի" :: Str.ofString "ակի" :: Str.ofString "որակ" :: Str.ofString "եղ" :: Str.ofString "են" :: Str.ofString "եկեն" :: Str.ofString "երեն" :: Str.ofString "որէն" :: Str.ofString "ին" :: Str.ofString "գին" :: Str.ofString "ովին" :: Str.ofString "լայն" :: Str.ofString "վուն" :: Str.ofString "պես" :: Str.ofString "իվ" :: Str.ofString "ատ" :: Str.ofString "ավետ" :: Str.ofString "կոտ" :: [])
noncomputable def adjectivesC : List (List Nat) := ([] :: [1380, 1408, 1400, 1408] :: [1380, 1408, 1400, 1408, 1381] :: [1387, 1388, 1377] :: [1387, 1391, 1377] :: [1391, 1377, 1408, 1400] :: [1394, 1381] :: [1398, 1381] :: [1398, 1381, 1391, 1381] :: [1398, 1381, 1408, 1381] :: [1398, 1383, 1408, 1400] :: [1398, 1387] :: [1398, 1387, 1379] :: [1398, 1387, 1406, 1400] :: [1398, 1397, 1377, 1388] :: [1398, 1410, 1400, 1406] :: [1405, 1381, 1402] :: [1406, 1387] :: [1407, 1377] :: [1407, 1381, 1406, 1377] :: [1407, 1400, 1391] :: [])
theorem adjectivesC_eq : adjectivesS.map (fun x => (codes x).reverse) = adjectivesC := by decide +kernel
noncomputable def verbsS : List Str := (Str.ofString "ա" :: Str.ofString "ացա" :: Str.ofString "եցա" :: Str.ofString "վե" :: Str.ofString "ացրի" :: Str.ofString "ացի" :: Str.ofString "եցի" :: Str.ofString "վեցի" :: Str.ofString "ալ" :: Str.ofString "ըալ" :: Str.ofString "անալ" :: Str.ofString "ենալ" :: Str.ofString "ացնալ" :: Str.ofString "ել" :: Str.ofString "ըել" :: Str.ofString "նել" :: Str.ofString "ցնել" :: Str.ofString "եցնել" :: Str.ofString "չել" :: Str.ofString "վել" :: Str.ofString "ացվել" :: Str.ofString "եցվել" :: Str.ofString "տել" :: Str.ofString "ատել" :: Str.ofString "ոտել" :: Str.ofString "կոտել" :: Str.ofString "ված" :: Str.ofString "ում" :: Str.ofString "վում" :: Str.ofString "ան" :: Str.ofString "ցան" :: Str.ofString "ացան" :: Str.ofString "ացրին" :: Str.ofString "ացին" :: Str.ofString "եցին" :: Str.ofString "վեցին" :: Str.ofString "ալիս" :: Str.ofString "ելիս" :: Str.ofString "ավ" :: Str.ofString "ացավ" :: Str.ofString "եցավ" :: Str.ofString "ալով" :: Str.ofString "ելով" :: Str.ofString "ար" :: Str.ofString "ացար" :: Str.ofString "եցար" :: Str.ofString "ացրիր" :: Str.ofString "ացիր" :: Str.ofString "եցիր" :: Str.ofString "վեցիր" :: Str.ofString "աց" :: Str.ofString "եց" :: Str.ofString "ացրեց" :: Str.ofString "ալուց" :: Str.ofString "ելուց" :: Str.ofString "ալու" :: Str.ofString "ելու" :: Str.ofString "աք" :: Str.ofString "ցաք" :: Str.ofString "ացաք" :: Str.ofString "ացրիք" :: Str.ofString "ացիք" :: Str.ofString "եցիք" :: Str.ofString "վեցիք" :: Str.ofString "անք" :: Str.ofString "ցանք" :: Str.ofString "ացանք" :: Str.ofString "ացրինք" :: Str.ofString "ացինք" :: Str.ofString "եցինք" :: Str.ofString "վեցինք" :: [])
noncomputable def verbsC : List (List Nat) := ([1377] :: [1377, 1409, 1377] :: [1377, 1409, 1381] :: [1381, 1406] :: [1387, 1408, 1409, 1377] :: [1387, 1409, 1377] :: [1387, 1409, 1381] :: [1387, 1409, 1381, 1406] :: [1388, 1377] :: [1388, 1377, 1384] :: [1388, 1377, 1398, 1377] :: [1388, 1377, 1398, 1381] :: [1388, 1377, 1398, 1409, 1377] :: [1388, 1381] :: [1388, 1381, 1384] :: [1388, 1381, 1398] :: [1388, 1381, 1398, 1409] :: [1388, 1381, 1398, 1409, 1381] :: [1388, 1381, 1401] :: [1388, 1381, 1406] :: [1388, 1381, 1406, 1409, 1377] :: [1388, 1381, 1406, 1409, 1381] :: [1388, 1381, 1407] :: [1388, 1381, 1407, 1377] :: [1388, 1381, 1407, 1400] :: [1388, 1381, 1407, 1400, 1391] :: [1390, 1377, 1406] :: [1396, 1410, 1400] :: [1396, 1410, 1400, 1406] :: [1398, 1377] :: [1398, 1377, 1409] :: [1398, 1377, 1409, 1377] :: [1398, 1387, 1408, 1409, 1377] :: [1398, 1387, 1409, 1377] :: [1398, 1387, 1409, 1381] :: [1398, 1387, 1409, 1381, 1406] :: [1405, 1387, 1388, 1377] :: [1405, 1387, 1388, 1381] :: [1406, 1377] :: [1406, 1377, 1409, 1377] :: [1406, 1377, 1409, 1381] :: [1406, 1400, 1388, 1377] :: [1406, 1400, 1388, 1381] :: [1408, 1377] :: [1408, 1377, 1409, 1377] :: [1408, 1377, 1409, 1381] :: [1408, 1387, 1408, 1409, 1377] :: [1408, 1387, 1409, 1377] :: [1408, 1387, 1409, 1381] :: [1408, 1387, 1409, 1381, 1406] :: [1409, 1377] :: [1409, 1381] :: [1409, 1381, 1408, 1409, 1377] :: [1409, 1410, 1400, 1388, 1377] :: [1409, 1410, 1400, 1388, 1381] :: [1410, 1400, 1388, 1377] :: [1410, 1400, 1388, 1381] :: [1412, 1377] :: [1412, 1377, 1409] :: [1412, 1377, 1409, 1377] :: [1412, 1387, 1408, 1409, 1377] :: [1412, 1387, 1409, 1377] :: [1412, 1387, 1409, 1381] :: [1412, 1387, 1409, 1381, 1406] :: [1412, 1398, 1377] :: [1412, 1398, 1377, 1409] :: [1412, 1398, 1377, 1409, 1377] :: [1412, 1398, 1387, 1408, 1409, 1377] :: [1412, 1398, 1387, 1409, 1377] :: [1412, 1398, 1387, 1409, 1381] :: [1412, 1398, 1387, 1409, 1381, 1406] :: [])
theorem verbsC_eq : verbsS.map (fun x => (codes x).reverse) = verbsC := by decide +kernel
noncomputable def caseOK (t : List Nat) : Bool := match findA P3 57 t with | none => false | some r3 => tailOK (t.drop (r3.getD 0))
theorem cases_ok : casesC.all caseOK = true := by decide +kernel
theorem root_ok : caseOK [] = true := by decide +kernel
theorem plurals_ok : pluralsC.all (fun t => find P3 57 t == some (some t.length) && decide (0 < t.length)) = true := by decide +kernel
theorem verbs_ok : verbsC.all tailOK = true := by decide +kernel
theorem nouns_ok : nounsC.all (fun n => adjectivesC.all fun a => tailOK (a ++ n)) = true := by decide +kernel
theorem rev_mem {l : List Str} {lc : List (List Nat)} (h : l.map (fun x => (codes x).reverse) = lc) {x : Str} (hx : x ∈ l) : (codes x).reverse ∈ lc := by
  rw [← h]
  exact List.mem_map_of_mem hx
theorem stems_caseOK {r c : Str} {p t : List Nat} {V C V' L : Nat} (R : Root r p V C V' L) (hc : codes c = codes r ++ t.reverse) (h : caseOK t = true) : Stems c r := by
  unfold caseOK at h
  cases e : findA P3 57 t with
  | none => rw [e] at h; exact nomatch h
  | some r3 => rw [e] at h; exact stems_of R hc (findA_ok e).1 (find_or e) h
theorem stems_root {r : Str} {p : List Nat} {V C V' L : Nat} (R : Root r p V C V' L) : Stems r r := stems_caseOK (t := []) R (by simp) root_ok
theorem stems_case {r x : Str} {p : List Nat} {V C V' L : Nat} (R : Root r p V C V' L) (hx : x ∈ casesS) : Stems (r ++ x) r :=
  stems_caseOK (t := (codes x).reverse) R (by rw [codes_app]; simp) (List.all_eq_true.mp cases_ok _ (rev_mem casesC_eq hx))
theorem stems_plural {r c : Str} {p t : List Nat} {y : Str} {V C V' L : Nat} (R : Root r p V C V' L) (hc : codes c = codes r ++ t.reverse ++ codes y) (h : tailOK t = true) (hy : y ∈ pluralsS) : Stems c r := by
  have hp := List.all_eq_true.mp plurals_ok _ (rev_mem pluralsC_eq hy)
  rw [Bool.and_eq_true, decide_eq_true_eq] at hp
  have e := eq_of_beq hp.1
  refine stems_of (t := (codes y).reverse ++ t) R ?_ ?_ (.inl ⟨_, t, rfl, e⟩) ?_
  · rw [hc]; simp
  · show (decide (0 < _) && decide (_ ≤ _)) = true
    rw [Bool.and_eq_true, decide_eq_true_eq, decide_eq_true_eq]
    refine ⟨hp.2, ?_⟩
    rw [List.length_append]
    omega
  · show tailOK (((codes y).reverse ++ t).drop (codes y).reverse.length) = true
    rw [List.drop_left]
    exact h
theorem stems_verb {r x y : Str} {p : List Nat} {V C V' L : Nat} (R : Root r p V C V' L) (hx : x ∈ verbsS) (hy : y ∈ pluralsS) : Stems (r ++ x ++ y) r :=
  stems_plural (t := (codes x).reverse) R (by rw [codes_app, codes_app]; simp) (List.all_eq_true.mp verbs_ok _ (rev_mem verbsC_eq hx)) hy
theorem stems_noun {r x z y : Str} {p : List Nat} {V C V' L : Nat} (R : Root r p V C V' L) (hx : x ∈ nounsS) (hz : z ∈ adjectivesS) (hy : y ∈ pluralsS) : Stems (r ++ x ++ z ++ y) r :=
  stems_plural (t := (codes z).reverse ++ (codes x).reverse) R (by rw [codes_app, codes_app, codes_app]; simp) (List.all_eq_true.mp (List.all_eq_true.mp nouns_ok _ (rev_mem nounsC_eq hx)) _ (rev_mem adjectivesC_eq hz)) hy
end Mine
end
section
open PySem PySem.W PyProof.Rows PySem.Calls
set_option maxRecDepth 100000
set_option maxHeartbeats 4000000
set_option linter.unusedVariables false
namespace Mine
noncomputable def valsFrom : List Str → Nat → List Value
  | [], _ => []
  | x :: l, b => .str x b :: valsFrom l (b + 1)
theorem valsFrom_len : ∀ (l : List Str) (b : Nat), (valsFrom l b).length = l.length
  | [], _ => rfl
  | x :: l, b => congrArg (· + 1) (valsFrom_len l (b + 1))
theorem valsFrom_mem : ∀ (l : List Str) (b : Nat) (v : Value), v ∈ valsFrom l b → ∃ x u, v = .str x u ∧ x ∈ l
  | [], _, v, h => nomatch h
  | x :: l, b, v, h => by
    rcases List.mem_cons.mp h with rfl | h
    · exact ⟨x, b, rfl, List.mem_cons_self⟩
    · obtain ⟨y, u, e, m⟩ := valsFrom_mem l (b + 1) v h
      exact ⟨y, u, e, List.mem_cons_of_mem _ m⟩
theorem k868 (P : Params) : (KA P).lookup 868 = some ⟨.type "list", none, .seq (valsFrom casesS 3160).toArray 0, #[]⟩ := by kernel_rfl
theorem k869 (P : Params) : (KA P).lookup 869 = some ⟨.type "list", none, .seq (valsFrom pluralsS 3218).toArray 0, #[]⟩ := by kernel_rfl
theorem k870 (P : Params) : (KA P).lookup 870 = some ⟨.type "list", none, .seq (valsFrom nounsS 3228).toArray 0, #[]⟩ := by kernel_rfl
theorem k871 (P : Params) : (KA P).lookup 871 = some ⟨.type "list", none, .seq (valsFrom adjectivesS 3266).toArray 0, #[]⟩ := by kernel_rfl
theorem k872 (P : Params) : (KA P).lookup 872 = some ⟨.type "list", none, .seq (valsFrom verbsS 3288).toArray 0, #[]⟩ := by kernel_rfl
noncomputable def shortS (l : List Str) : Bool := decide (0 < l.length) && decide (l.length ≤ 1000) && l.all fun x => decide (x.length ≤ 20)
theorem shortCases : shortS casesS = true := by decide +kernel
theorem shortPlurals : shortS pluralsS = true := by decide +kernel
theorem shortNouns : shortS nounsS = true := by decide +kernel
theorem shortAdjectives : shortS adjectivesS = true := by decide +kernel
theorem shortVerbs : shortS verbsS = true := by decide +kernel
section
variable {w : World} {p : Program} {loose : List Str} {mean : ExcName → Option Value} {mg mb : Str → Option Value} {dp un : Nat} {gd : Option (List Code)} {cn : Str} {cs : Scope} {a : Addr} {ccd : Value} {cl : List (Str × Addr)} {outer : List Env} {A₀ : Around} {base h₀ : Heap} {L : Addr} {m : Str → Option Value} {s : Shared} {Q E : Value → Shared → Prop}
theorem pick_w (l : Addr) (ws : List Str) (b : Nat) (hS : shortS ws = true) (k : Int) (tq : Tok) (news : List (Addr × Obj)) (hl : h₀.IsList l (valsFrom ws b).toArray)
    (B : Below A₀ base outer h₀) (F : Fr h₀ L s.heap m) (X : (KA w.params).In h₀)
    (N : News h₀ L s.heap news)
    (T : Top p loose mean mg mb h₀) (hk : cs.kind = .function) (hd : dp + 20 < recursionLimit) (hu : un + 160 < cLine)
    (hret : ∀ h' tk' x u, x ∈ ws → x.length ≤ 20 → Fr h₀ L h' m → News h₀ L h' news → Q (.str x u) { s with heap := h', toks := tk' }) :
    wpAny (model prog0 w) (ktrTop dp un gd cn cs L a ccd cl outer) (call (.ref 893) [.ref l, .int k tq]) Q E s := by
  unfold shortS at hS
  simp only [Bool.and_eq_true, decide_eq_true_eq, List.all_eq_true] at hS
  obtain ⟨⟨h1, h2⟩, h3⟩ := hS
  have hlen := valsFrom_len ws b
  have hf1 : 0 ≤ k.fmod ((valsFrom ws b).length : Int) := Int.fmod_nonneg_of_pos k (by omega)
  have hf2 : k.fmod ((valsFrom ws b).length : Int) < ((valsFrom ws b).length : Int) := Int.fmod_lt_of_pos k (by omega)
  have hi : (k.fmod ((valsFrom ws b).length : Int)).toNat < (valsFrom ws b).length := by omega
  obtain ⟨x, u, e, mm⟩ := valsFrom_mem ws b _ (List.getElem_mem hi)
  exact pick_l l (valsFrom ws b) (.str x u) k tq news hl (by rw [List.getElem?_eq_getElem hi, e]) (by omega) (by omega) B F X N T hk hd hu (fun h' tk' F' N' => hret h' tk' x u mm (h3 x mm) F' N')
end
/-- the root of a word: the front's signs, vowel, other, vowel, last -/
noncomputable def vowS : Str := Str.ofString "աեէըիուօ"
noncomputable def othS : Str := Str.ofString "բգդզթժլխծկհձղճմյնշչպջռսվտրցփքֆ"
noncomputable def lasS : Str := Str.ofString "զժխձճշռփֆ"
theorem item_is (x : Str) (k : Int) (n : Nat) (hn : x.length = n) (h : 0 < n) : ∃ c, c ∈ codes x ∧ codes (Txt.item x (k.fmod n)) = [c] := by
  subst hn
  have hf1 : 0 ≤ k.fmod (x.length : Int) := Int.fmod_nonneg_of_pos k (by omega)
  have hf2 : k.fmod (x.length : Int) < (x.length : Int) := Int.fmod_lt_of_pos k (by omega)
  have hi : (k.fmod (x.length : Int)).toNat < (codes x).length := by rw [codes_len]; omega
  refine ⟨(codes x)[(k.fmod (x.length : Int)).toNat], List.getElem_mem hi, ?_⟩
  have e : seqIndex? (k.fmod (x.length : Int)) x.length = some (k.fmod (x.length : Int)).toNat := by
    unfold seqIndex?
    have h0 : ¬ k.fmod (x.length : Int) < 0 := by omega
    simp only [if_neg h0]
    rw [if_pos (by rw [Bool.and_eq_true, decide_eq_true_eq, decide_eq_true_eq]; exact ⟨hf1, hf2⟩)]
  have e2 : x.cps[(k.fmod (x.length : Int)).toNat]? = some (codes x)[(k.fmod (x.length : Int)).toNat] := by
    rw [← Array.getElem?_toList]
    exact List.getElem?_eq_getElem hi
  show [(Txt.charAt x (k.fmod (x.length : Int))).getD 0] = _
  unfold Txt.charAt
  rw [e, Option.bind_some, e2]
  rfl
noncomputable def isVc (c : Nat) : Bool := isV ⟨#[c]⟩
theorem vow_ok : (codes vowS).all (fun c => isVc c) = true := by decide +kernel
theorem oth_ok : (codes othS).all (fun c => !isVc c) = true := by decide +kernel
theorem las_ok : (codes lasS).all (fun c => !isVc c && lasts.contains c) = true := by decide +kernel
theorem vowS_len : vowS.length = 8 := by decide +kernel
theorem othS_len : othS.length = 30 := by decide +kernel
theorem lasS_len : lasS.length = 9 := by decide +kernel
/-- the root as the law builds it -/
noncomputable def rootOf (fr : Str) (a b c d : Int) : Str := fr ++ (Txt.item vowS (a.fmod (8 : Nat)) ++ Txt.item othS (b.fmod (30 : Nat))) ++ Txt.item vowS (c.fmod (8 : Nat)) ++ Txt.item lasS (d.fmod (9 : Nat))
theorem rootOf_root (fr : Str) (a b c d : Int) : ∃ p V C V' L, Root (rootOf fr a b c d) p V C V' L ∧ (rootOf fr a b c d).length = fr.length + 4 := by
  obtain ⟨x1, m1, e1⟩ := item_is vowS a 8 vowS_len (by decide)
  obtain ⟨x2, m2, e2⟩ := item_is othS b 30 othS_len (by decide)
  obtain ⟨x3, m3, e3⟩ := item_is vowS c 8 vowS_len (by decide)
  obtain ⟨x4, m4, e4⟩ := item_is lasS d 9 lasS_len (by decide)
  have g1 := List.all_eq_true.mp vow_ok _ m1
  have g2 := List.all_eq_true.mp oth_ok _ m2
  have g3 := List.all_eq_true.mp vow_ok _ m3
  have g4 := List.all_eq_true.mp las_ok _ m4
  rw [Bool.and_eq_true] at g4
  have hc : codes (rootOf fr a b c d) = codes fr ++ [x1, x2, x3, x4] := by
    unfold rootOf
    rw [codes_app, codes_app, codes_app, codes_app, e1, e2, e3, e4]
    simp
  refine ⟨codes fr, x1, x2, x3, x4, ⟨hc, g1, ?_, g3, ?_, List.contains_iff_mem.mp g4.2⟩, ?_⟩
  · exact Bool.not_eq_true' _ ▸ g2
  · exact Bool.not_eq_true' _ ▸ g4.1
  · rw [← codes_len, hc, List.length_append, codes_len]; rfl
/-- a word that the law takes for a root -/
noncomputable def IsRoot (r : Str) : Prop := (∃ p V C V' L, Root r p V C V' L) ∧ r.length ≤ 10
theorem isRoot_mk (fr : Str) (hf : fr.length ≤ 6) (a b c d : Int) : IsRoot (fr ++ (Txt.item (Str.ofString "աեէըիուօ") (a.fmod (Str.ofString "աեէըիուօ").length) ++ Txt.item (Str.ofString "բգդզթժլխծկհձղճմյնշչպջռսվտրցփքֆ") (b.fmod (Str.ofString "բգդզթժլխծկհձղճմյնշչպջռսվտրցփքֆ").length)) ++ Txt.item (Str.ofString "աեէըիուօ") (c.fmod (Str.ofString "աեէըիուօ").length) ++ Txt.item (Str.ofString "զժխձճշռփֆ") (d.fmod (Str.ofString "զժխձճշռփֆ").length)) := by
  obtain ⟨p, V, C, V', L, R, h⟩ := rootOf_root fr a b c d
  unfold rootOf at R h
  rw [← vowS_len, ← othS_len, ← lasS_len] at R h
  exact ⟨⟨p, V, C, V', L, R⟩, by
    have : (fr ++ (Txt.item vowS (a.fmod vowS.length) ++ Txt.item othS (b.fmod othS.length)) ++ Txt.item vowS (c.fmod vowS.length) ++ Txt.item lasS (d.fmod lasS.length)).length ≤ 10 := by rw [h]; omega
    exact this⟩
theorem IsRoot.self {r : Str} (h : IsRoot r) : Stems r r := by
  obtain ⟨⟨p, V, C, V', L, R⟩, _⟩ := h
  exact stems_root R
theorem IsRoot.case_ {r x : Str} (h : IsRoot r) (hx : x ∈ casesS) : Stems (r ++ x) r := by
  obtain ⟨⟨p, V, C, V', L, R⟩, _⟩ := h
  exact stems_case R hx
theorem IsRoot.noun {r x z y : Str} (h : IsRoot r) (hx : x ∈ nounsS) (hz : z ∈ adjectivesS) (hy : y ∈ pluralsS) : Stems (r ++ x ++ z ++ y) r := by
  obtain ⟨⟨p, V, C, V', L, R⟩, _⟩ := h
  exact stems_noun R hx hz hy
theorem IsRoot.verb {r x y : Str} (h : IsRoot r) (hx : x ∈ verbsS) (hy : y ∈ pluralsS) : Stems (r ++ x ++ y) r := by
  obtain ⟨⟨p, V, C, V', L, R⟩, _⟩ := h
  exact stems_verb R hx hy
end Mine
end
section
open PySem PySem.W PyProof.Rows PySem.Calls
set_option maxRecDepth 100000
set_option maxHeartbeats 4000000
set_option linter.unusedVariables false
namespace Mine
local macro_rules | `(tactic| k_all) => `(tactic| assumption)
local macro_rules | `(tactic| k_mem) => `(tactic| first | exact List.Mem.head _ | assumption | (refine' List.Mem.tail _ ?_; k_mem))
local macro_rules | `(tactic| lcg_src) => `(tactic| k_mem)
section
variable {w : World} {p : Program} {loose : List Str} {mean : ExcName → Option Value} {mg mb : Str → Option Value} {dp un : Nat} {gd : Option (List Code)} {cn : Str} {cs : Scope} {a : Addr} {ccd : Value} {cl : List (Str × Addr)} {outer : List Env} {A₀ : Around} {base h₀ : Heap} {L : Addr} {m : Str → Option Value} {s : Shared} {Q E : Value → Shared → Prop}
theorem end8 {h9 : Heap} {tk9 : Nat} {s₁ : Shared} {x dx I C D k : Addr} {ix dd oI oC oD oc : Obj} {rest : List (Addr × Obj)} {S : List (Addr × Obj) → Prop} {R : Value → List (Addr × Obj) → Prop} {y : Value} (F : Fr h₀ L h9 m)
    (N : News h₀ L h9 ((x, ix) :: (dx, dd) :: (I, oI) :: (C, oC) :: (D, oD) :: (k, oc) :: rest)) (off : LCg.Off3 I C D ((x, ix) :: (dx, dd) :: (k, oc) :: rest)) (hS : S ((x, ix) :: (dx, dd) :: (k, oc) :: rest)) (r : R y ((x, ix) :: (dx, dd) :: (k, oc) :: rest)) :
    LCg.CompEnd h₀ L m s₁ I oI C oC D oD S R y { s₁ with heap := h9, toks := tk9 } :=
  LCg.CompEnd.intro F N _ (fun p hp => by
    simp only [List.mem_cons] at hp ⊢
    rcases hp with h | h | h | h | h | h | h <;> simp only [h, true_or, or_true]) off hS r
theorem words (x dx l : Addr) (its : Array Value) (kk : Nat) (ts : Nat → Str) (c cur lim lb bra ket : Value) (t1 t2 t3 t4 t5 t6 : Tok) (rest : List (Addr × Obj))
    (hI : ∀ (i : Nat) (v : Value), its[i]? = some v → ∃ c u, v = Value.str c u ∧ Stems c (ts i) ∧ (c.length : Int) ≤ 1000) (hsz : its.size ≤ 100) (hl : (l, ({ cls := .type "list", data := .seq its kk } : Obj)) ∈ rest) (TT : Tabs w.params h₀)
    (hoff : ∀ p ∈ rest, p.1 ≠ dx) (hx : x ≠ dx)
    (B : Below A₀ base outer h₀) (F : Fr h₀ L s.heap m) (X : (KA w.params).In h₀) (V : VSet w h₀)
    (N : News h₀ L s.heap ((x, instObj 852 dx) :: (dx, dictOf (self6 w.params t1 t2 t3 t4 t5 t6 c cur lim lb bra ket) 6) :: rest))
    (T : Top p loose mean mg mb h₀) (hk : cs.kind = .function) (hd : dp + 520 < recursionLimit) (hu : un + 6000 < cLine)
    (hret : ∀ h' tk' D ys, Fr h₀ L h' m → News h₀ L h' ((D, LCg.lst ys) :: rest) → ys.length = its.size → (∀ (i : Nat) (y : Value), ys[i]? = some y → ∃ u, y = Value.str (ts i) u) → Q (.ref D) { s with heap := h', toks := tk' }) :
    wpAny (model prog0 w) (ktrTop dp un gd cn cs L a ccd cl outer) (call (.ref 194) [.ref x, .ref l]) Q E s := by
  have hfill : PySem.Challenge.rw_ak0021_01.name = PySem.Challenge.rw_ak0021_01.name ∧ KA = KA := by
    k_fill
    exact ⟨rfl, rfl⟩
  clear hfill
  w_on
  dsimp only [self8, self6, ent] at N
  refine wpAny_call ?_
  k_dflt (refine' code_defC ?k1 ?k2 ?k3 ?k4 ?k5 ?kA ?kF ?kK ?k6 ?k7 ?k8 ?k9 ?kB ?kD ?_ ?c2 ?c3 ?c4; (case kA => exact rfl); (case kF => exact rfl); (case kK => assumption); (case k1 => k_asm); (case k2 => k_asm); (case k3 => k_asm); (case k4 => k_asm); (case k5 => k_asm); (case k6 => k_is); (case k7 => k_is); (case k8 => ktr_room); (case k9 => exact BindsTo.of_eq rfl); (case kB => exact rfl); (case kD => decide +kernel); (case c2 => exact rfl); (case c3 => exact rfl); (case c4 => exact rfl); k_whole; intro g' L' h' tk' cells' FG' F' N' Y' B' X' T' l1)
  k_cells Y'
  (try simp only [List.cons_append, List.nil_append] at N')
  (try dsimp only)
  (try k_lift B')
  (try k_fold)
  have V' := V.keeps FG'.keep
  have TT' := TT.keeps FG'.keep
  clear TT
  rename_i oc dc
  have dc1 : oc.data = Data.cell (some (Value.ref x)) := dc
  clear dc
  have hlx : x < L' := l1 (x, _) List.mem_cons_self
  have hld : dx < L' := l1 (dx, _) (List.mem_cons_of_mem _ List.mem_cons_self)
  have hlr : ∀ p ∈ rest, p.1 < L' := fun p hp => l1 p (List.mem_cons_of_mem _ (List.mem_cons_of_mem _ hp))
  clear l1
  have N1 : News g' L' h' ((x, instObj 852 dx) :: (dx, dictOf (self6 w.params t1 t2 t3 t4 t5 t6 c cur lim lb bra ket) 6) :: (L' + 1, oc) :: rest) := fun p hp => N' p (by
    simp only [List.mem_cons] at hp ⊢
    rcases hp with h | h | h | h
    · exact .inr (.inl h)
    · exact .inr (.inr (.inl h))
    · exact .inl h
    · exact .inr (.inr (.inr h)))
  clear N'
  iterate 3 (first | (k_here; (with_reducible show wpAny _ _ (call (Value.ref 189) _ _) _ _ _); refine' word6 _ _ _ _ _ _ _ _ _ _ _ _ _ _ _ _ _ _ ?kS ?kTT ?kl2 ?koff ?kx ?kB ?kF ?kX ?kV ?kN ?kT ?kk ?kd ?ku ?_; (case kF => k_asm); (case kN => k_asm); (case kB => k_asm); (case kX => k_asm); (case kV => k_asm); (case kT => k_asm); (case koff => assumption); (case kx => assumption); (case kk => first | exact rfl | assumption); (case kS => assumption); (case kTT => assumption); (case kl2 => assumption); (case kd => first | exact room1 (by with_reducible assumption) rfl | ktr_room); (case ku => first | exact unit1 (by with_reducible assumption) rfl | ktr_units); intro h9 tk9 u96 cur9 lim9 lb9 bra9 ket9 pv9 p29 t79 t89 F9 N9; dsimp only [self8, self6, ent] at N9; (try k_sweep)) | (k_here; (with_reducible show wpAny _ _ (call (Value.ref 189) _ _) _ _ _); refine' word8 _ _ _ _ _ _ _ _ _ _ _ _ _ _ _ _ _ _ _ _ _ _ ?kS ?kTT ?kl2 ?koff ?kx ?kB ?kF ?kX ?kV ?kN ?kT ?kk ?kd ?ku ?_; (case kF => k_asm); (case kN => k_asm); (case kB => k_asm); (case kX => k_asm); (case kV => k_asm); (case kT => k_asm); (case koff => assumption); (case kx => assumption); (case kk => first | exact rfl | assumption); (case kS => assumption); (case kTT => assumption); (case kl2 => assumption); (case kd => first | exact room1 (by with_reducible assumption) rfl | ktr_room); (case ku => first | exact unit1 (by with_reducible assumption) rfl | ktr_units); intro h9 tk9 u96 cur9 lim9 lb9 bra9 ket9 pv9 p29 F9 N9; dsimp only [self8, self6, ent] at N9; (try k_sweep)) | walk1)
  iterate 1 (first | (k_here; (with_reducible show wpAny _ _ (call (Value.ref 189) _ _) _ _ _); refine' word6 _ _ _ _ _ _ _ _ _ _ _ _ _ _ _ _ _ _ ?kS ?kTT ?kl2 ?koff ?kx ?kB ?kF ?kX ?kV ?kN ?kT ?kk ?kd ?ku ?_; (case kF => k_asm); (case kN => k_asm); (case kB => k_asm); (case kX => k_asm); (case kV => k_asm); (case kT => k_asm); (case koff => assumption); (case kx => assumption); (case kk => first | exact rfl | assumption); (case kS => assumption); (case kTT => assumption); (case kl2 => assumption); (case kd => first | exact room1 (by with_reducible assumption) rfl | ktr_room); (case ku => first | exact unit1 (by with_reducible assumption) rfl | ktr_units); intro h9 tk9 u96 cur9 lim9 lb9 bra9 ket9 pv9 p29 t79 t89 F9 N9; dsimp only [self8, self6, ent] at N9; (try k_sweep)) | (k_here; (with_reducible show wpAny _ _ (call (Value.ref 189) _ _) _ _ _); refine' word8 _ _ _ _ _ _ _ _ _ _ _ _ _ _ _ _ _ _ _ _ _ _ ?kS ?kTT ?kl2 ?koff ?kx ?kB ?kF ?kX ?kV ?kN ?kT ?kk ?kd ?ku ?_; (case kF => k_asm); (case kN => k_asm); (case kB => k_asm); (case kX => k_asm); (case kV => k_asm); (case kT => k_asm); (case koff => assumption); (case kx => assumption); (case kk => first | exact rfl | assumption); (case kS => assumption); (case kTT => assumption); (case kl2 => assumption); (case kd => first | exact room1 (by with_reducible assumption) rfl | ktr_room); (case ku => first | exact unit1 (by with_reducible assumption) rfl | ktr_units); intro h9 tk9 u96 cur9 lim9 lb9 bra9 ket9 pv9 p29 F9 N9; dsimp only [self8, self6, ent] at N9; (try k_sweep)) | walk1)
  refine' LCg.CompSrc.ledger (its := its) (k := kk) ?zH ?zF ?zN ?zM ?zS ?_
  case zH => rfl
  case zF => k_asm
  case zN => exact N1
  case zM => exact List.mem_cons_of_mem _ (List.mem_cons_of_mem _ (List.mem_cons_of_mem _ hl))
  case zS => rw [PySem.sizeLine_eq]; omega
  intro g8
  refine comp_inv (fun i nw => (i = 0 ∧ nw = ((x, instObj 852 dx) :: (dx, dictOf (self6 w.params t1 t2 t3 t4 t5 t6 c cur lim lb bra ket) 6) :: (L' + 1, oc) :: rest)) ∨ (∃ t7 t8 c' cur' lim' lb' bra' ket' pv' p2', nw = ((x, instObj 852 dx) :: (dx, dictOf (self8 w.params t1 t2 t3 t4 t5 t6 t7 t8 c' cur' lim' lb' bra' ket' pv' p2') 8) :: (L' + 1, oc) :: rest))) (fun i y => ∃ u, y = Value.str (ts i) u) ?turnW ?finW (.inl ⟨rfl, rfl⟩)
  case turnW =>
    intro i8 nw8 v8 I8 oI8 C8 oC8 D8 m8 ys8 h8 tk8 E8 hi8 hJ8 hv8 hC8 hx8 F8 N8 off8 ne8
    obtain ⟨c8, u8, rfl, hS8, hlen8⟩ := hI i8 v8 hv8
    have hoffW : ∀ dd : Obj, LCg.Off3 I8 C8 D8 ((x, instObj 852 dx) :: (dx, dd) :: (L' + 1, oc) :: rest) := by
      intro dd
      rcases hJ8 with ⟨rfl, rfl⟩ | ⟨_, _, _, _, _, _, _, _, _, _, rfl⟩ <;> exact off8
    clear off8
    have o8 := LCg.Off3.mem (hoffW oc)
    have hoff7 : ∀ p ∈ (I8, oI8) :: (C8, oC8) :: (D8, LCg.lst ys8) :: (L' + 1, oc) :: rest, p.1 ≠ dx := by
      have od := o8 (dx, oc) (List.mem_cons_of_mem _ List.mem_cons_self)
      intro p hp
      simp only [List.mem_cons] at hp
      rcases hp with rfl | rfl | rfl | rfl | hp
      · exact Ne.symm od.1
      · exact Ne.symm od.2.1
      · exact Ne.symm od.2.2
      · exact Nat.ne_of_gt (Nat.lt_succ_of_lt hld)
      · exact hoff p hp
    clear o8
    rcases hJ8 with ⟨rfl, rfl⟩ | ⟨t7, t8, c', cur', lim', lb', bra', ket', pv', p2', rfl⟩
    · have N7 : News g' L' h8 ((x, instObj 852 dx) :: (dx, dictOf (self6 w.params t1 t2 t3 t4 t5 t6 c cur lim lb bra ket) 6) :: (I8, oI8) :: (C8, oC8) :: (D8, LCg.lst ys8) :: (L' + 1, oc) :: rest) := fun p hp => N8 p (by
        simp only [List.mem_cons] at hp ⊢
        rcases hp with h | h | h | h | h | h | h <;> simp only [h, true_or, or_true])
      clear N8
      iterate 10 (first | (k_here; (with_reducible show wpAny _ _ (call (Value.ref 189) _ _) _ _ _); refine' word6 _ _ _ _ _ _ _ _ _ _ _ _ _ _ _ _ _ _ ?kS ?kTT ?kl2 ?koff ?kx ?kB ?kF ?kX ?kV ?kN ?kT ?kk ?kd ?ku ?_; (case kF => k_asm); (case kN => k_asm); (case kB => k_asm); (case kX => k_asm); (case kV => k_asm); (case kT => k_asm); (case koff => assumption); (case kx => assumption); (case kk => first | exact rfl | assumption); (case kS => assumption); (case kTT => assumption); (case kl2 => assumption); (case kd => first | exact room1 (by with_reducible assumption) rfl | ktr_room); (case ku => first | exact unit1 (by with_reducible assumption) rfl | ktr_units); intro h9 tk9 u96 cur9 lim9 lb9 bra9 ket9 pv9 p29 t79 t89 F9 N9; dsimp only [self8, self6, ent] at N9; (try k_sweep)) | (k_here; (with_reducible show wpAny _ _ (call (Value.ref 189) _ _) _ _ _); refine' word8 _ _ _ _ _ _ _ _ _ _ _ _ _ _ _ _ _ _ _ _ _ _ ?kS ?kTT ?kl2 ?koff ?kx ?kB ?kF ?kX ?kV ?kN ?kT ?kk ?kd ?ku ?_; (case kF => k_asm); (case kN => k_asm); (case kB => k_asm); (case kX => k_asm); (case kV => k_asm); (case kT => k_asm); (case koff => assumption); (case kx => assumption); (case kk => first | exact rfl | assumption); (case kS => assumption); (case kTT => assumption); (case kl2 => assumption); (case kd => first | exact room1 (by with_reducible assumption) rfl | ktr_room); (case ku => first | exact unit1 (by with_reducible assumption) rfl | ktr_units); intro h9 tk9 u96 cur9 lim9 lb9 bra9 ket9 pv9 p29 F9 N9; dsimp only [self8, self6, ent] at N9; (try k_sweep)) | walk1)
      rename News _ _ _ _ => N6
      exact end8 (by assumption) N6 (hoffW _) (.inr ⟨_, List.mem_cons_of_mem _ (List.mem_cons_of_mem _ (List.mem_cons_of_mem _ hl)), rfl, _, rfl⟩) ⟨.inr ⟨_, _, _, _, _, _, _, _, _, _, rfl⟩, _, rfl⟩
    · have N7 : News g' L' h8 ((x, instObj 852 dx) :: (dx, dictOf (self8 w.params t1 t2 t3 t4 t5 t6 t7 t8 c' cur' lim' lb' bra' ket' pv' p2') 8) :: (I8, oI8) :: (C8, oC8) :: (D8, LCg.lst ys8) :: (L' + 1, oc) :: rest) := fun p hp => N8 p (by
        simp only [List.mem_cons] at hp ⊢
        rcases hp with h | h | h | h | h | h | h <;> simp only [h, true_or, or_true])
      clear N8
      iterate 10 (first | (k_here; (with_reducible show wpAny _ _ (call (Value.ref 189) _ _) _ _ _); refine' word6 _ _ _ _ _ _ _ _ _ _ _ _ _ _ _ _ _ _ ?kS ?kTT ?kl2 ?koff ?kx ?kB ?kF ?kX ?kV ?kN ?kT ?kk ?kd ?ku ?_; (case kF => k_asm); (case kN => k_asm); (case kB => k_asm); (case kX => k_asm); (case kV => k_asm); (case kT => k_asm); (case koff => assumption); (case kx => assumption); (case kk => first | exact rfl | assumption); (case kS => assumption); (case kTT => assumption); (case kl2 => assumption); (case kd => first | exact room1 (by with_reducible assumption) rfl | ktr_room); (case ku => first | exact unit1 (by with_reducible assumption) rfl | ktr_units); intro h9 tk9 u96 cur9 lim9 lb9 bra9 ket9 pv9 p29 t79 t89 F9 N9; dsimp only [self8, self6, ent] at N9; (try k_sweep)) | (k_here; (with_reducible show wpAny _ _ (call (Value.ref 189) _ _) _ _ _); refine' word8 _ _ _ _ _ _ _ _ _ _ _ _ _ _ _ _ _ _ _ _ _ _ ?kS ?kTT ?kl2 ?koff ?kx ?kB ?kF ?kX ?kV ?kN ?kT ?kk ?kd ?ku ?_; (case kF => k_asm); (case kN => k_asm); (case kB => k_asm); (case kX => k_asm); (case kV => k_asm); (case kT => k_asm); (case koff => assumption); (case kx => assumption); (case kk => first | exact rfl | assumption); (case kS => assumption); (case kTT => assumption); (case kl2 => assumption); (case kd => first | exact room1 (by with_reducible assumption) rfl | ktr_room); (case ku => first | exact unit1 (by with_reducible assumption) rfl | ktr_units); intro h9 tk9 u96 cur9 lim9 lb9 bra9 ket9 pv9 p29 F9 N9; dsimp only [self8, self6, ent] at N9; (try k_sweep)) | walk1)
      rename News _ _ _ _ => N6
      exact end8 (by assumption) N6 (hoffW _) (.inr ⟨_, List.mem_cons_of_mem _ (List.mem_cons_of_mem _ (List.mem_cons_of_mem _ hl)), rfl, _, rfl⟩) ⟨.inr ⟨_, _, _, _, _, _, _, _, _, _, rfl⟩, _, rfl⟩
  intro ysW nwW hnW hlW hRW
  have hsub : ∀ p ∈ rest, p ∈ nwW := by
    rcases hnW with ⟨_, rfl⟩ | ⟨_, _, _, _, _, _, _, _, _, _, rfl⟩ <;> exact fun p hp => List.mem_cons_of_mem _ (List.mem_cons_of_mem _ (List.mem_cons_of_mem _ hp))
  clear hnW
  clear N1
  iterate 1 (first | (k_here; (with_reducible show wpAny _ _ (call (Value.ref 189) _ _) _ _ _); refine' word6 _ _ _ _ _ _ _ _ _ _ _ _ _ _ _ _ _ _ ?kS ?kTT ?kl2 ?koff ?kx ?kB ?kF ?kX ?kV ?kN ?kT ?kk ?kd ?ku ?_; (case kF => k_asm); (case kN => k_asm); (case kB => k_asm); (case kX => k_asm); (case kV => k_asm); (case kT => k_asm); (case koff => assumption); (case kx => assumption); (case kk => first | exact rfl | assumption); (case kS => assumption); (case kTT => assumption); (case kl2 => assumption); (case kd => first | exact room1 (by with_reducible assumption) rfl | ktr_room); (case ku => first | exact unit1 (by with_reducible assumption) rfl | ktr_units); intro h9 tk9 u96 cur9 lim9 lb9 bra9 ket9 pv9 p29 t79 t89 F9 N9; dsimp only [self8, self6, ent] at N9; (try k_sweep)) | (k_here; (with_reducible show wpAny _ _ (call (Value.ref 189) _ _) _ _ _); refine' word8 _ _ _ _ _ _ _ _ _ _ _ _ _ _ _ _ _ _ _ _ _ _ ?kS ?kTT ?kl2 ?koff ?kx ?kB ?kF ?kX ?kV ?kN ?kT ?kk ?kd ?ku ?_; (case kF => k_asm); (case kN => k_asm); (case kB => k_asm); (case kX => k_asm); (case kV => k_asm); (case kT => k_asm); (case koff => assumption); (case kx => assumption); (case kk => first | exact rfl | assumption); (case kS => assumption); (case kTT => assumption); (case kl2 => assumption); (case kd => first | exact room1 (by with_reducible assumption) rfl | ktr_room); (case ku => first | exact unit1 (by with_reducible assumption) rfl | ktr_units); intro h9 tk9 u96 cur9 lim9 lb9 bra9 ket9 pv9 p29 F9 N9; dsimp only [self8, self6, ent] at N9; (try k_sweep)) | walk1)
  rename News _ _ _ _ => N5
  rename Fr _ _ _ _ => F5
  rename_i D5 h5 tk5 o5
  have N4 : News g' L' h5 ((D5, LCg.lst ysW) :: rest) := fun p hp => N5 p (by
    rcases List.mem_cons.mp hp with rfl | hp
    · exact List.mem_cons_self
    · exact List.mem_cons_of_mem _ (hsub p hp))
  clear N5
  exact leaveK_ F5 N4 (fun kF kN => hret _ _ _ _ kF kN hlW hRW)

theorem make (news : List (Addr × Obj))
    (B : Below A₀ base outer h₀) (F : Fr h₀ L s.heap m) (X : (KA w.params).In h₀) (V : VSet w h₀)
    (N : News h₀ L s.heap news)
    (T : Top p loose mean mg mb h₀) (hk : cs.kind = .function) (hd : dp + 60 < recursionLimit) (hu : un + 600 < cLine)
    (hret : ∀ h' tk' x dx c cur lim lb bra ket t1 t2 t3 t4 t5 t6, Fr h₀ L h' m → News h₀ L h' ((x, instObj 852 dx) :: (dx, dictOf (self6 w.params t1 t2 t3 t4 t5 t6 c cur lim lb bra ket) 6) :: news) → (∀ p ∈ news, p.1 ≠ dx) → x ≠ dx → Q (.ref x) { s with heap := h', toks := tk' }) :
    wpAny (model prog0 w) (ktrTop dp un gd cn cs L a ccd cl outer) (call (.ref 852) []) Q E s := by
  have hfill : PySem.Challenge.rw_ak0021_01.name = PySem.Challenge.rw_ak0021_01.name ∧ KA = KA := by
    k_fill
    exact ⟨rfl, rfl⟩
  clear hfill
  w_on
  k_dflt (refine' call_cls ?zk1 ?zk2 ?zk3 ?zk4 ?zk5 ?zk6 ?_; (case zk1 => k_asm); (case zk2 => k_asm); (case zk3 => k_asm); (case zk4 => k_is); (case zk5 => k_is); (case zk6 => k_is))
  intro x dx h1 F1 N1 l1 l2
  have hoff1 : ∀ p ∈ news, p.1 ≠ dx := fun p hp => Nat.ne_of_lt (l1 p hp)
  have hx1 : x ≠ dx := Nat.ne_of_gt l2
  clear l1 l2 N F
  k_dflt cell_enter
  rename_i g' L' h' FG' F' N' B' X' T'
  have V' := V.keeps FG'.keep
  generalize s.toks + _ = tk0
  iterate 10 (first | (k_here; (with_reducible show wpAny _ _ (call (Value.ref 189) _ _) _ _ _); refine' word6 _ _ _ _ _ _ _ _ _ _ _ _ _ _ _ _ _ _ ?kS ?kTT ?kl2 ?koff ?kx ?kB ?kF ?kX ?kV ?kN ?kT ?kk ?kd ?ku ?_; (case kF => k_asm); (case kN => k_asm); (case kB => k_asm); (case kX => k_asm); (case kV => k_asm); (case kT => k_asm); (case koff => assumption); (case kx => assumption); (case kk => first | exact rfl | assumption); (case kS => assumption); (case kTT => assumption); (case kl2 => assumption); (case kd => first | exact room1 (by with_reducible assumption) rfl | ktr_room); (case ku => first | exact unit1 (by with_reducible assumption) rfl | ktr_units); intro h9 tk9 u96 cur9 lim9 lb9 bra9 ket9 pv9 p29 t79 t89 F9 N9; dsimp only [self8, self6, ent] at N9; (try k_sweep)) | (k_here; (with_reducible show wpAny _ _ (call (Value.ref 189) _ _) _ _ _); refine' word8 _ _ _ _ _ _ _ _ _ _ _ _ _ _ _ _ _ _ _ _ _ _ ?kS ?kTT ?kl2 ?koff ?kx ?kB ?kF ?kX ?kV ?kN ?kT ?kk ?kd ?ku ?_; (case kF => k_asm); (case kN => k_asm); (case kB => k_asm); (case kX => k_asm); (case kV => k_asm); (case kT => k_asm); (case koff => assumption); (case kx => assumption); (case kk => first | exact rfl | assumption); (case kS => assumption); (case kTT => assumption); (case kl2 => assumption); (case kd => first | exact room1 (by with_reducible assumption) rfl | ktr_room); (case ku => first | exact unit1 (by with_reducible assumption) rfl | ktr_units); intro h9 tk9 u96 cur9 lim9 lb9 bra9 ket9 pv9 p29 F9 N9; dsimp only [self8, self6, ent] at N9; (try k_sweep)) | walk1)
  refine' set0 _ _ _ _ _ ?kl ?koff ?kx ?kB ?kF ?kX ?kV ?kN ?kT ?kk ?kd ?ku ?_
  case kF => k_asm
  case kN => k_asm
  case kB => k_asm
  case kX => k_asm
  case kV => k_asm
  case kT => k_asm
  case koff => assumption
  case kx => assumption
  case kk => first | exact rfl | assumption
  case kl => decide +kernel
  case kd => ktr_room
  case ku =>
    have hcL := cLine_is
    have e9 : ((ktrTop dp un gd cn cs L a ccd cl outer).under (Code.builtin "type.__call__" { pos := [Value.ref 852] })).units ≤ un + 4 := by first | exact Nat.le_refl _ | exact Nat.add_le_add_left (by decide) _ | simp [Around.under, Code.cUnits, Code.frames, ktrTop]
    show ((ktrTop dp un gd cn cs L a ccd cl outer).under (Code.builtin "type.__call__" { pos := [Value.ref 852] })).units + _ + 300 < cLine
    omega
  intro h9 tk9 u91 u92 u93 u94 u95 t91 t92 t93 t94 t95 t96 F9 N9
  k_sweep
  (first | (k_here; (with_reducible show wpAny _ _ (call (Value.ref 189) _ _) _ _ _); refine' word6 _ _ _ _ _ _ _ _ _ _ _ _ _ _ _ _ _ _ ?kS ?kTT ?kl2 ?koff ?kx ?kB ?kF ?kX ?kV ?kN ?kT ?kk ?kd ?ku ?_; (case kF => k_asm); (case kN => k_asm); (case kB => k_asm); (case kX => k_asm); (case kV => k_asm); (case kT => k_asm); (case koff => assumption); (case kx => assumption); (case kk => first | exact rfl | assumption); (case kS => assumption); (case kTT => assumption); (case kl2 => assumption); (case kd => first | exact room1 (by with_reducible assumption) rfl | ktr_room); (case ku => first | exact unit1 (by with_reducible assumption) rfl | ktr_units); intro h9 tk9 u96 cur9 lim9 lb9 bra9 ket9 pv9 p29 t79 t89 F9 N9; dsimp only [self8, self6, ent] at N9; (try k_sweep)) | (k_here; (with_reducible show wpAny _ _ (call (Value.ref 189) _ _) _ _ _); refine' word8 _ _ _ _ _ _ _ _ _ _ _ _ _ _ _ _ _ _ _ _ _ _ ?kS ?kTT ?kl2 ?koff ?kx ?kB ?kF ?kX ?kV ?kN ?kT ?kk ?kd ?ku ?_; (case kF => k_asm); (case kN => k_asm); (case kB => k_asm); (case kX => k_asm); (case kV => k_asm); (case kT => k_asm); (case koff => assumption); (case kx => assumption); (case kk => first | exact rfl | assumption); (case kS => assumption); (case kTT => assumption); (case kl2 => assumption); (case kd => first | exact room1 (by with_reducible assumption) rfl | ktr_room); (case ku => first | exact unit1 (by with_reducible assumption) rfl | ktr_units); intro h9 tk9 u96 cur9 lim9 lb9 bra9 ket9 pv9 p29 F9 N9; dsimp only [self8, self6, ent] at N9; (try k_sweep)) | walk1)
  (first | (k_here; (with_reducible show wpAny _ _ (call (Value.ref 189) _ _) _ _ _); refine' word6 _ _ _ _ _ _ _ _ _ _ _ _ _ _ _ _ _ _ ?kS ?kTT ?kl2 ?koff ?kx ?kB ?kF ?kX ?kV ?kN ?kT ?kk ?kd ?ku ?_; (case kF => k_asm); (case kN => k_asm); (case kB => k_asm); (case kX => k_asm); (case kV => k_asm); (case kT => k_asm); (case koff => assumption); (case kx => assumption); (case kk => first | exact rfl | assumption); (case kS => assumption); (case kTT => assumption); (case kl2 => assumption); (case kd => first | exact room1 (by with_reducible assumption) rfl | ktr_room); (case ku => first | exact unit1 (by with_reducible assumption) rfl | ktr_units); intro h9 tk9 u96 cur9 lim9 lb9 bra9 ket9 pv9 p29 t79 t89 F9 N9; dsimp only [self8, self6, ent] at N9; (try k_sweep)) | (k_here; (with_reducible show wpAny _ _ (call (Value.ref 189) _ _) _ _ _); refine' word8 _ _ _ _ _ _ _ _ _ _ _ _ _ _ _ _ _ _ _ _ _ _ ?kS ?kTT ?kl2 ?koff ?kx ?kB ?kF ?kX ?kV ?kN ?kT ?kk ?kd ?ku ?_; (case kF => k_asm); (case kN => k_asm); (case kB => k_asm); (case kX => k_asm); (case kV => k_asm); (case kT => k_asm); (case koff => assumption); (case kx => assumption); (case kk => first | exact rfl | assumption); (case kS => assumption); (case kTT => assumption); (case kl2 => assumption); (case kd => first | exact room1 (by with_reducible assumption) rfl | ktr_room); (case ku => first | exact unit1 (by with_reducible assumption) rfl | ktr_units); intro h9 tk9 u96 cur9 lim9 lb9 bra9 ket9 pv9 p29 F9 N9; dsimp only [self8, self6, ent] at N9; (try k_sweep)) | walk1)
  exact hret _ _ _ _ _ _ _ _ _ _ _ _ _ _ _ _ (by assumption) (by assumption) hoff1 hx1
end
end Mine
end
section
open PySem PySem.W PyProof.Rows PySem.Calls
set_option maxRecDepth 100000
set_option maxHeartbeats 4000000
set_option linter.unusedVariables false
namespace Mine
/-- what each of the seven forms is cut down to -/
noncomputable def target (rt ot : Str) (i : Nat) : Str := [rt, rt, rt, rt, ot, ot, rt].getD i rt
theorem forms_ok {rt ot z0 z1 z2 z3 z4 z5 : Str} {tr u0 u1 u2 u3 u4 u5 : Tok} (hr : Stems rt rt) (h0 : Stems z0 rt) (h1 : Stems z1 rt) (h2 : Stems z2 rt) (h3 : Stems z3 ot) (h4 : Stems z4 ot) (h5 : Stems z5 rt)
    (lr : rt.length ≤ 20) (l0 : z0.length ≤ 100) (l1 : z1.length ≤ 100) (l2 : z2.length ≤ 100) (l3 : z3.length ≤ 100) (l4 : z4.length ≤ 100) (l5 : z5.length ≤ 100) :
    ∀ (i : Nat) (v : Value), ((((#[Value.str rt tr, Value.str z0 u0, Value.str z1 u1, Value.str z2 u2] : Array Value).push (Value.str z3 u3)).push (Value.str z4 u4)).push (Value.str z5 u5))[i]? = some v → ∃ c u, v = Value.str c u ∧ Stems c (target rt ot i) ∧ (c.length : Int) ≤ 1000
  | 0, v, h => by cases h; exact ⟨_, _, rfl, hr, Int.ofNat_le.mpr (Nat.le_trans lr (by decide))⟩
  | 1, v, h => by cases h; exact ⟨_, _, rfl, h0, Int.ofNat_le.mpr (Nat.le_trans l0 (by decide))⟩
  | 2, v, h => by cases h; exact ⟨_, _, rfl, h1, Int.ofNat_le.mpr (Nat.le_trans l1 (by decide))⟩
  | 3, v, h => by cases h; exact ⟨_, _, rfl, h2, Int.ofNat_le.mpr (Nat.le_trans l2 (by decide))⟩
  | 4, v, h => by cases h; exact ⟨_, _, rfl, h3, Int.ofNat_le.mpr (Nat.le_trans l3 (by decide))⟩
  | 5, v, h => by cases h; exact ⟨_, _, rfl, h4, Int.ofNat_le.mpr (Nat.le_trans l4 (by decide))⟩
  | 6, v, h => by cases h; exact ⟨_, _, rfl, h5, Int.ofNat_le.mpr (Nat.le_trans l5 (by decide))⟩
  | n + 7, v, h => by
    have : (((#[Value.str rt tr, Value.str z0 u0, Value.str z1 u1, Value.str z2 u2] : Array Value).push (Value.str z3 u3)).push (Value.str z4 u4)).push (Value.str z5 u5) = #[Value.str rt tr, Value.str z0 u0, Value.str z1 u1, Value.str z2 u2, Value.str z3 u3, Value.str z4 u4, Value.str z5 u5] := rfl
    rw [this, Array.getElem?_eq_none (by simp)] at h
    exact nomatch h
theorem ys_seven {rt ot : Str} {ys : List Value} (hl : ys.length = 7) (h : ∀ (i : Nat) (y : Value), ys[i]? = some y → ∃ u, y = Value.str (target rt ot i) u) :
    ∃ u0 u1 u2 u3 u4 u5 u6, ys = [Value.str rt u0, Value.str rt u1, Value.str rt u2, Value.str rt u3, Value.str ot u4, Value.str ot u5, Value.str rt u6] := by
  obtain ⟨a0, y0, e0, l0⟩ := cons_of hl
  obtain ⟨a1, y1, e1, l1⟩ := cons_of l0
  obtain ⟨a2, y2, e2, l2⟩ := cons_of l1
  obtain ⟨a3, y3, e3, l3⟩ := cons_of l2
  obtain ⟨a4, y4, e4, l4⟩ := cons_of l3
  obtain ⟨a5, y5, e5, l5⟩ := cons_of l4
  obtain ⟨a6, y6, e6, l6⟩ := cons_of l5
  have e := nil_of l6
  subst e
  subst e6
  subst e5
  subst e4
  subst e3
  subst e2
  subst e1
  subst e0
  obtain ⟨u0, rfl⟩ := h 0 a0 rfl
  obtain ⟨u1, rfl⟩ := h 1 a1 rfl
  obtain ⟨u2, rfl⟩ := h 2 a2 rfl
  obtain ⟨u3, rfl⟩ := h 3 a3 rfl
  obtain ⟨u4, rfl⟩ := h 4 a4 rfl
  obtain ⟨u5, rfl⟩ := h 5 a5 rfl
  obtain ⟨u6, rfl⟩ := h 6 a6 rfl
  exact ⟨u0, u1, u2, u3, u4, u5, u6, rfl⟩
theorem eq_seven {prog : Program} {w : World} {A : Around} {E : Value → Shared → Prop} {s : Shared} {Q : Value → Shared → Prop} {l b : Addr} {rt ot : Str} {u0 u1 u2 u3 u4 u5 u6 v0 v1 v2 v3 v4 v5 v6 : Tok}
    (hl : s.heap.IsList l #[Value.str rt u0, Value.str rt u1, Value.str rt u2, Value.str rt u3, Value.str ot u4, Value.str ot u5, Value.str rt u6])
    (hb : s.heap.IsList b #[Value.str rt v0, Value.str rt v1, Value.str rt v2, Value.str rt v3, Value.str ot v4, Value.str ot v5, Value.str rt v6])
    (hu : A.units < cLine) (h : Q (.bool true) s) : wpAny (model prog w) A (compareOp .Eq (.ref l) (.ref b)) Q E s := by
  have key : ∀ (a : Str) (t u : Tok), SeqAt.EqAt A.in1 s (.str a t) (.str a u) true := fun a t u => by
    have := SeqAt.EqAt.str_str (A := A.in1) (s := s) a t a u
    rwa [beq_self_eq_true] at this
  refine SeqAt.eq_listAt (e := fun _ => true) hl hb rfl hu (fun j h1 h2 => ?_) h
  have h7 : j < 7 := h1
  rcases j with _ | j
  · exact key rt u0 v0
  rcases j with _ | j
  · exact key rt u1 v1
  rcases j with _ | j
  · exact key rt u2 v2
  rcases j with _ | j
  · exact key rt u3 v3
  rcases j with _ | j
  · exact key ot u4 v4
  rcases j with _ | j
  · exact key ot u5 v5
  rcases j with _ | j
  · exact key rt u6 v6
  · exact absurd h7 (Nat.not_lt.mpr (Nat.le_add_left 7 j))
end Mine
end
section
open PySem PySem.W PyProof.Rows PySem.Calls
set_option maxRecDepth 100000
set_option maxHeartbeats 4000000
set_option linter.unusedVariables false
namespace Mine
theorem ne1 (x : Nat) : x ≠ x + 1 := by omega
theorem ne2 (x : Nat) : x ≠ x + 1 + 1 := by omega
theorem ne3 (x : Nat) : x ≠ x + 1 + 1 + 1 := by omega
theorem ne4 (x : Nat) : x ≠ x + 1 + 1 + 1 + 1 := by omega
theorem signOf_len (k : Int) : (signOf k).length = 1 := by
  unfold signOf
  (repeat' split) <;> rfl
theorem item_len (x : Str) (i : Int) : (Txt.item x i).length = 1 := rfl
theorem sz2 {a b : Str} (ha : a.length ≤ 20) (hb : b.length ≤ 20) : a.length + b.length ≤ sizeLine := by rw [PySem.sizeLine_eq]; omega
theorem sz3 {a b c : Str} (ha : a.length ≤ 20) (hb : b.length ≤ 20) (hc : c.length ≤ 20) : (a ++ b).length + c.length ≤ sizeLine := by rw [PySem.sizeLine_eq, Str.length_append]; omega
theorem sz4 {a b c d : Str} (ha : a.length ≤ 20) (hb : b.length ≤ 20) (hc : c.length ≤ 20) (hd : d.length ≤ 20) : (a ++ b ++ c).length + d.length ≤ sizeLine := by rw [PySem.sizeLine_eq, Str.length_append, Str.length_append]; omega
theorem szi {a x : Str} {i : Int} (ha : a.length ≤ 20) : a.length + (Txt.item x i).length ≤ sizeLine := by rw [PySem.sizeLine_eq, item_len]; omega
theorem len2 {a b : Str} (ha : a.length ≤ 20) (hb : b.length ≤ 20) : (a ++ b).length ≤ 100 := by rw [Str.length_append]; omega
theorem len3 {a b c : Str} (ha : a.length ≤ 20) (hb : b.length ≤ 20) (hc : c.length ≤ 20) : (a ++ b ++ c).length ≤ 100 := by rw [Str.length_append, Str.length_append]; omega
theorem len4 {a b c d : Str} (ha : a.length ≤ 20) (hb : b.length ≤ 20) (hc : c.length ≤ 20) (hd : d.length ≤ 20) : (a ++ b ++ c ++ d).length ≤ 100 := by rw [Str.length_append, Str.length_append, Str.length_append]; omega
theorem front_len (L : List Int) (h : L.length ≤ 6) : (Txt.join (Str.ofString "") (L.map signOf)).length ≤ 6 := by
  show (Txt.join _ _).length ≤ 6
  unfold Txt.join
  rw [size_glued]
  have h1 := sumLen_le_of_bound signOf 1 L (fun k _ => Nat.le_of_eq (signOf_len k))
  have h2 : (Str.ofString "").length = 0 := by decide +kernel
  rw [h2]
  omega
theorem news_drop4 {h₀ h : Heap} {L : Addr} {a b c d : Addr × Obj} {r : List (Addr × Obj)} (N : News h₀ L h (a :: b :: c :: d :: r)) : News h₀ L h r := fun p hp => N p (List.mem_cons_of_mem _ (List.mem_cons_of_mem _ (List.mem_cons_of_mem _ (List.mem_cons_of_mem _ hp))))
theorem news_drop1 {h₀ h : Heap} {L : Addr} {a b : Addr × Obj} {r : List (Addr × Obj)} (N : News h₀ L h (a :: b :: r)) : News h₀ L h (a :: r) := fun p hp => N p (by
  rcases List.mem_cons.mp hp with h | h
  · exact h ▸ List.mem_cons_self
  · exact List.mem_cons_of_mem _ (List.mem_cons_of_mem _ h))
theorem news_drop5 {h₀ h : Heap} {L : Addr} {a b c d e f : Addr × Obj} {r : List (Addr × Obj)} (N : News h₀ L h (a :: b :: c :: d :: e :: f :: r)) : News h₀ L h (a :: r) := fun p hp => N p (by
  rcases List.mem_cons.mp hp with h | h
  · exact h ▸ List.mem_cons_self
  · exact List.mem_cons_of_mem _ (List.mem_cons_of_mem _ (List.mem_cons_of_mem _ (List.mem_cons_of_mem _ (List.mem_cons_of_mem _ (List.mem_cons_of_mem _ h))))))
theorem take6_of {n k : Nat} {l : List Int} (h : (List.take (min 20 n - 14) l).length = k) : (List.take (min 20 n - 14) l).length ≤ 6 := by
  clear h
  rw [List.length_take]
  omega
theorem join_bound (L : List Int) (h : L.length ≤ 63) : (((L.map signOf).map (·.length)).sum + (L.map signOf).length * (Str.ofString "").length) ≤ 16777216 := by
  have h1 := sumLen_le_of_bound signOf 1 L (fun k _ => Nat.le_of_eq (signOf_len k))
  have h2 : (Str.ofString "").length = 0 := by decide +kernel
  rw [h2]
  omega
local macro_rules | `(tactic| k_ne) => `(tactic| (refine neN ?_; (try dsimp only); (first | (with_reducible assumption) | (with_reducible exact Ne.symm (by assumption)) | (with_reducible exact Nat.ne_of_lt (by assumption)) | (with_reducible exact Nat.ne_of_gt (by assumption)) | (with_reducible exact ne1 _) | (with_reducible exact ne2 _) | (with_reducible exact ne3 _) | (with_reducible exact ne4 _) | (with_reducible exact Ne.symm (ne1 _)) | (with_reducible exact Ne.symm (ne2 _)) | (with_reducible exact Ne.symm (ne3 _)) | (with_reducible exact Ne.symm (ne4 _)) | fail "k_ne: not at hand")))
local macro_rules | `(tactic| lcg_src) => `(tactic| k_mem)
local macro_rules | `(tactic| walk_at "CompSrc") => `(tactic| (k_here; k_dflt (refine' LCg.CompSrc.ledger ?zH ?zF ?zN ?zM ?zS ?_; (case zH => rfl); (case zF => k_asm); (case zN => k_asm); (case zM => k_mem); (case zS => size_fits); intro g'; refine' kct_list signOf ?zI (fun k' t' I' oI' C' oC' D' m' ys' h' tk' E' hk' hC' hx' F' N' off' ne' => ?_) ?_; (case zI => assumption); (all_goals (try (simp only [LCg.Off3, and_true] at off'))); (all_goals (try ((show KPfMark → _); intro hMark'))); (all_goals (repeat (rename ((_ ≠ _) ∧ _) ∧ _ => hx9; have hx8 := hx9.1; have hx7 := hx9.2; clear hx9))); (all_goals (repeat (rename (_ ≠ _) ∧ _ => hx9; have hx8 := hx9.1; have hx7 := hx9.2; clear hx9))); (all_goals (repeat (rename (_ < _) ∧ _ => hx9; have hx8 := hx9.1; have hx7 := hx9.2; clear hx9))))))
local macro_rules | `(tactic| k_all) => `(tactic| assumption)
theorem hcW : WalkO vq lq (XL vq []) Hq.says rq dLaw [] fun f vs => PySem.call f vs := by
  have hfill : PySem.Challenge.rw_ak0021_01.name = PySem.Challenge.rw_ak0021_01.name ∧ KA = KA := by
    k_fill
    exact ⟨rfl, rfl⟩
  clear hfill
  w_on
  intro w s₀ s₁ mg mb G Y fa o pm cd doc dV kV ho hd hcd hD hmg hg args vals as hpre hlay hrd hwl hlo
  have KX' := kIn_of Y
  have KX := ka_in KX'
  have KT := tabs_in KX'
  have KV := vset_in KX'
  clear KX' Y
  k_behind G ho hd hcd hD hmg hpre hlay hrd hwl hlo cd
  (all_goals try k_fold)
  rename Fr _ _ _ _ => F5
  generalize hm0 : bindL _ _ _ = m0 at F5 ⊢
  clear hm0
  iterate 15 (first | (k_here; (with_reducible show wpAny _ _ (call (Value.builtin "str.join") _ _) _ _ _); k_dflt (refine' join_list ?zl ?zi ?zo ?_; (case zl => exact News.isList (by k_asm) (by k_mem)); (case zi => assumption); (case zo => assumption)); intro _ _) | (k_here; (with_reducible show wpAny _ _ (call (Value.ref 879) [Value.ref _, Value.int _ _]) _ _ _); k_dflt (refine' law_at _ _ _ _ _ _ ?kl ?kI ?kq ?kq2 ?kn ?kB ?kF ?kX ?kN ?kT ?kk ?kd ?ku ?_; (case kF => k_asm); (case kN => k_asm); (case kB => k_asm); (case kX => k_asm); (case kT => k_asm); (case kk => first | exact rfl | assumption); (case kl => (first | assumption | exact Fr.lst (by k_asm) (by assumption))); (case kI => assumption); (case kq => omega); (case kq2 => omega); (case kn => omega); (case kd => first | exact Nat.le_of_ble_eq_true rfl | ktr_room); (case ku => first | exact Nat.le_of_ble_eq_true rfl | ktr_units)); intro h9 tk9 t9 F9 N9) | (k_here; (with_reducible show wpAny _ _ (call (Value.ref 886) [Value.int _ _]) _ _ _); k_dflt (refine' law_sign _ _ _  ?kB ?kF ?kX ?kN ?kT ?kk ?kd ?ku ?_; (case kF => k_asm); (case kN => k_asm); (case kB => k_asm); (case kX => k_asm); (case kT => k_asm); (case kk => first | exact rfl | assumption); (case kd => first | exact Nat.le_of_ble_eq_true rfl | ktr_room); (case ku => first | exact Nat.le_of_ble_eq_true rfl | ktr_units)); intro h9 tk9 t9 F9 N9) | (k_here; (with_reducible show wpAny _ _ (call (Value.ref 893) [Value.str _ _, Value.int _ _]) _ _ _); k_dflt (refine' pick_s _ _ _ _ _ ?kx ?kx2 ?kB ?kF ?kX ?kN ?kT ?kk ?kd ?ku ?_; (case kF => k_asm); (case kN => k_asm); (case kB => k_asm); (case kX => k_asm); (case kT => k_asm); (case kk => first | exact rfl | assumption); (case kx => (first | omega | decide +kernel | exact Nat.le_of_ble_eq_true rfl)); (case kx2 => (first | omega | decide +kernel | exact Nat.le_of_ble_eq_true rfl)); (case kd => first | exact Nat.le_of_ble_eq_true rfl | ktr_room); (case ku => first | exact Nat.le_of_ble_eq_true rfl | ktr_units)); intro h9 tk9 t9 F9 N9) | (k_here; (with_reducible show wpAny _ _ (binaryOp Operator.Add (Value.str _ _) (Value.str _ _)) _ _ _); k_dflt (refine SBL.add (hsz := ?hsz) ?_; (case hsz => first | with_reducible exact sz2 (by with_reducible assumption) (by with_reducible assumption) | with_reducible exact sz3 (by with_reducible assumption) (by with_reducible assumption) (by with_reducible assumption) | with_reducible exact sz4 (by with_reducible assumption) (by with_reducible assumption) (by with_reducible assumption) (by with_reducible assumption) | with_reducible exact szi (by with_reducible assumption) | (rw [PySem.sizeLine_eq]; (try simp only [Str.length_append, item_len]); omega))); intro _ _ _) | walk1)
  · repeat' (first | (k_unfold; (try dsimp only)) | (k_end; wrow_close) | (k_here; (with_reducible show wpAny _ _ (call (Value.builtin "str.join") _ _) _ _ _); k_dflt (refine' join_list ?zl ?zi ?zo ?_; (case zl => exact News.isList (by k_asm) (by k_mem)); (case zi => assumption); (case zo => assumption)); intro _ _) | (k_here; (with_reducible show wpAny _ _ (call (Value.ref 879) [Value.ref _, Value.int _ _]) _ _ _); k_dflt (refine' law_at _ _ _ _ _ _ ?kl ?kI ?kq ?kq2 ?kn ?kB ?kF ?kX ?kN ?kT ?kk ?kd ?ku ?_; (case kF => k_asm); (case kN => k_asm); (case kB => k_asm); (case kX => k_asm); (case kT => k_asm); (case kk => first | exact rfl | assumption); (case kl => (first | assumption | exact Fr.lst (by k_asm) (by assumption))); (case kI => assumption); (case kq => omega); (case kq2 => omega); (case kn => omega); (case kd => first | exact Nat.le_of_ble_eq_true rfl | ktr_room); (case ku => first | exact Nat.le_of_ble_eq_true rfl | ktr_units)); intro h9 tk9 t9 F9 N9) | (k_here; (with_reducible show wpAny _ _ (call (Value.ref 886) [Value.int _ _]) _ _ _); k_dflt (refine' law_sign _ _ _  ?kB ?kF ?kX ?kN ?kT ?kk ?kd ?ku ?_; (case kF => k_asm); (case kN => k_asm); (case kB => k_asm); (case kX => k_asm); (case kT => k_asm); (case kk => first | exact rfl | assumption); (case kd => first | exact Nat.le_of_ble_eq_true rfl | ktr_room); (case ku => first | exact Nat.le_of_ble_eq_true rfl | ktr_units)); intro h9 tk9 t9 F9 N9) | (k_here; (with_reducible show wpAny _ _ (call (Value.ref 893) [Value.str _ _, Value.int _ _]) _ _ _); k_dflt (refine' pick_s _ _ _ _ _ ?kx ?kx2 ?kB ?kF ?kX ?kN ?kT ?kk ?kd ?ku ?_; (case kF => k_asm); (case kN => k_asm); (case kB => k_asm); (case kX => k_asm); (case kT => k_asm); (case kk => first | exact rfl | assumption); (case kx => (first | omega | decide +kernel | exact Nat.le_of_ble_eq_true rfl)); (case kx2 => (first | omega | decide +kernel | exact Nat.le_of_ble_eq_true rfl)); (case kd => first | exact Nat.le_of_ble_eq_true rfl | ktr_room); (case ku => first | exact Nat.le_of_ble_eq_true rfl | ktr_units)); intro h9 tk9 t9 F9 N9) | (k_here; (with_reducible show wpAny _ _ (binaryOp Operator.Add (Value.str _ _) (Value.str _ _)) _ _ _); k_dflt (refine SBL.add (hsz := ?hsz) ?_; (case hsz => first | with_reducible exact sz2 (by with_reducible assumption) (by with_reducible assumption) | with_reducible exact sz3 (by with_reducible assumption) (by with_reducible assumption) (by with_reducible assumption) | with_reducible exact sz4 (by with_reducible assumption) (by with_reducible assumption) (by with_reducible assumption) (by with_reducible assumption) | with_reducible exact szi (by with_reducible assumption) | (rw [PySem.sizeLine_eq]; (try simp only [Str.length_append, item_len]); omega))); intro _ _ _) | walk1 | (dsimp only; walk1) | (leave1; walk_say "STEP leave1"; try dsimp only) | fail "no step")
    all_goals (refine kct_el ?_ (by with_unfolding_all rfl) (by with_unfolding_all rfl); first | exact signOf_1 _ (by assumption) | exact signOf_2 _ (by assumption))
  · unfold KPfDone
    intro ys9 hy9 hl9
    have hy8 : StrsAre ys9.toArray.toList (List.map signOf _) := StrsAre.of_carried (by rw [List.map_map]; exact hy9)
    have h6 := take6_of hl9
    have hz8 := join_bound _ (Nat.le_trans h6 (by decide))
    have hf8 := front_len _ h6
    clear h6
    clear hy9
    iterate 3 (first | (k_here; (with_reducible show wpAny _ _ (call (Value.builtin "str.join") _ _) _ _ _); k_dflt (refine' join_list ?zl ?zi ?zo ?_; (case zl => exact News.isList (by k_asm) (by k_mem)); (case zi => assumption); (case zo => assumption)); intro _ _) | (k_here; (with_reducible show wpAny _ _ (call (Value.ref 879) [Value.ref _, Value.int _ _]) _ _ _); k_dflt (refine' law_at _ _ _ _ _ _ ?kl ?kI ?kq ?kq2 ?kn ?kB ?kF ?kX ?kN ?kT ?kk ?kd ?ku ?_; (case kF => k_asm); (case kN => k_asm); (case kB => k_asm); (case kX => k_asm); (case kT => k_asm); (case kk => first | exact rfl | assumption); (case kl => (first | assumption | exact Fr.lst (by k_asm) (by assumption))); (case kI => assumption); (case kq => omega); (case kq2 => omega); (case kn => omega); (case kd => first | exact Nat.le_of_ble_eq_true rfl | ktr_room); (case ku => first | exact Nat.le_of_ble_eq_true rfl | ktr_units)); intro h9 tk9 t9 F9 N9) | (k_here; (with_reducible show wpAny _ _ (call (Value.ref 886) [Value.int _ _]) _ _ _); k_dflt (refine' law_sign _ _ _  ?kB ?kF ?kX ?kN ?kT ?kk ?kd ?ku ?_; (case kF => k_asm); (case kN => k_asm); (case kB => k_asm); (case kX => k_asm); (case kT => k_asm); (case kk => first | exact rfl | assumption); (case kd => first | exact Nat.le_of_ble_eq_true rfl | ktr_room); (case ku => first | exact Nat.le_of_ble_eq_true rfl | ktr_units)); intro h9 tk9 t9 F9 N9) | (k_here; (with_reducible show wpAny _ _ (call (Value.ref 893) [Value.str _ _, Value.int _ _]) _ _ _); k_dflt (refine' pick_s _ _ _ _ _ ?kx ?kx2 ?kB ?kF ?kX ?kN ?kT ?kk ?kd ?ku ?_; (case kF => k_asm); (case kN => k_asm); (case kB => k_asm); (case kX => k_asm); (case kT => k_asm); (case kk => first | exact rfl | assumption); (case kx => (first | omega | decide +kernel | exact Nat.le_of_ble_eq_true rfl)); (case kx2 => (first | omega | decide +kernel | exact Nat.le_of_ble_eq_true rfl)); (case kd => first | exact Nat.le_of_ble_eq_true rfl | ktr_room); (case ku => first | exact Nat.le_of_ble_eq_true rfl | ktr_units)); intro h9 tk9 t9 F9 N9) | (k_here; (with_reducible show wpAny _ _ (binaryOp Operator.Add (Value.str _ _) (Value.str _ _)) _ _ _); k_dflt (refine SBL.add (hsz := ?hsz) ?_; (case hsz => first | with_reducible exact sz2 (by with_reducible assumption) (by with_reducible assumption) | with_reducible exact sz3 (by with_reducible assumption) (by with_reducible assumption) (by with_reducible assumption) | with_reducible exact sz4 (by with_reducible assumption) (by with_reducible assumption) (by with_reducible assumption) (by with_reducible assumption) | with_reducible exact szi (by with_reducible assumption) | (rw [PySem.sizeLine_eq]; (try simp only [Str.length_append, item_len]); omega))); intro _ _ _) | walk1)
    generalize Txt.join (Str.ofString "") _ = fr at hf8 ⊢
    repeat ((fail_if_success (with_reducible show wpAny _ _ (eval (Expr.ListComp _ _ _ _) _) _ _ _)); (first | (k_here; (with_reducible show wpAny _ _ (call (Value.ref 879) [Value.ref _, Value.int _ _]) _ _ _); k_dflt (refine' law_at _ _ _ _ _ _ ?kl ?kI ?kq ?kq2 ?kn ?kB ?kF ?kX ?kN ?kT ?kk ?kd ?ku ?_; (case kF => k_asm); (case kN => k_asm); (case kB => k_asm); (case kX => k_asm); (case kT => k_asm); (case kk => first | exact rfl | assumption); (case kl => (first | assumption | exact Fr.lst (by k_asm) (by assumption))); (case kI => assumption); (case kq => omega); (case kq2 => omega); (case kn => omega); (case kd => first | exact Nat.le_of_ble_eq_true rfl | ktr_room); (case ku => first | exact Nat.le_of_ble_eq_true rfl | ktr_units)); intro h9 tk9 t9 F9 N9) | (k_here; (with_reducible show wpAny _ _ (call (Value.ref 886) [Value.int _ _]) _ _ _); k_dflt (refine' law_sign _ _ _  ?kB ?kF ?kX ?kN ?kT ?kk ?kd ?ku ?_; (case kF => k_asm); (case kN => k_asm); (case kB => k_asm); (case kX => k_asm); (case kT => k_asm); (case kk => first | exact rfl | assumption); (case kd => first | exact Nat.le_of_ble_eq_true rfl | ktr_room); (case ku => first | exact Nat.le_of_ble_eq_true rfl | ktr_units)); intro h9 tk9 t9 F9 N9) | (k_here; (with_reducible show wpAny _ _ (call (Value.ref 893) [Value.str _ _, Value.int _ _]) _ _ _); k_dflt (refine' pick_s _ _ _ _ _ ?kx ?kx2 ?kB ?kF ?kX ?kN ?kT ?kk ?kd ?ku ?_; (case kF => k_asm); (case kN => k_asm); (case kB => k_asm); (case kX => k_asm); (case kT => k_asm); (case kk => first | exact rfl | assumption); (case kx => (first | omega | decide +kernel | exact Nat.le_of_ble_eq_true rfl)); (case kx2 => (first | omega | decide +kernel | exact Nat.le_of_ble_eq_true rfl)); (case kd => first | exact Nat.le_of_ble_eq_true rfl | ktr_room); (case ku => first | exact Nat.le_of_ble_eq_true rfl | ktr_units)); intro h9 tk9 t9 F9 N9) | (k_here; (with_reducible show wpAny _ _ (binaryOp Operator.Add (Value.str _ _) (Value.str _ _)) _ _ _); k_dflt (refine SBL.add (hsz := ?hsz) ?_; (case hsz => first | with_reducible exact sz2 (by with_reducible assumption) (by with_reducible assumption) | with_reducible exact sz3 (by with_reducible assumption) (by with_reducible assumption) (by with_reducible assumption) | with_reducible exact sz4 (by with_reducible assumption) (by with_reducible assumption) (by with_reducible assumption) (by with_reducible assumption) | with_reducible exact szi (by with_reducible assumption) | (rw [PySem.sizeLine_eq]; (try simp only [Str.length_append, item_len]); omega))); intro _ _ _) | walk1))
    generalize hmid : Txt.item _ _ ++ Txt.item _ _ = mid at *
    generalize hff : fr ++ mid ++ Txt.item _ _ = ff at *
    have hfl : ff.length ≤ 20 := by
      rw [← hff, ← hmid]
      simp only [Str.length_append, item_len]
      omega
    refine' comp_tuple ?c0 ?c1 ?c2 ?c3 ?c4 ?c5 ?_
    case c0 => k_asm
    case c1 => with_unfolding_all rfl
    case c2 => decide
    case c3 => rfl
    case c4 => decide
    case c5 => rfl
    iterate 7 (first | (k_here; (with_reducible show wpAny _ _ (call (Value.ref 879) [Value.ref _, Value.int _ _]) _ _ _); k_dflt (refine' law_at _ _ _ _ _ _ ?kl ?kI ?kq ?kq2 ?kn ?kB ?kF ?kX ?kN ?kT ?kk ?kd ?ku ?_; (case kF => k_asm); (case kN => k_asm); (case kB => k_asm); (case kX => k_asm); (case kT => k_asm); (case kk => first | exact rfl | assumption); (case kl => (first | assumption | exact Fr.lst (by k_asm) (by assumption))); (case kI => assumption); (case kq => omega); (case kq2 => omega); (case kn => omega); (case kd => first | exact Nat.le_of_ble_eq_true rfl | ktr_room); (case ku => first | exact Nat.le_of_ble_eq_true rfl | ktr_units)); intro h9 tk9 t9 F9 N9) | (k_here; (with_reducible show wpAny _ _ (call (Value.ref 886) [Value.int _ _]) _ _ _); k_dflt (refine' law_sign _ _ _  ?kB ?kF ?kX ?kN ?kT ?kk ?kd ?ku ?_; (case kF => k_asm); (case kN => k_asm); (case kB => k_asm); (case kX => k_asm); (case kT => k_asm); (case kk => first | exact rfl | assumption); (case kd => first | exact Nat.le_of_ble_eq_true rfl | ktr_room); (case ku => first | exact Nat.le_of_ble_eq_true rfl | ktr_units)); intro h9 tk9 t9 F9 N9) | (k_here; (with_reducible show wpAny _ _ (call (Value.ref 893) [Value.str _ _, Value.int _ _]) _ _ _); k_dflt (refine' pick_s _ _ _ _ _ ?kx ?kx2 ?kB ?kF ?kX ?kN ?kT ?kk ?kd ?ku ?_; (case kF => k_asm); (case kN => k_asm); (case kB => k_asm); (case kX => k_asm); (case kT => k_asm); (case kk => first | exact rfl | assumption); (case kx => (first | omega | decide +kernel | exact Nat.le_of_ble_eq_true rfl)); (case kx2 => (first | omega | decide +kernel | exact Nat.le_of_ble_eq_true rfl)); (case kd => first | exact Nat.le_of_ble_eq_true rfl | ktr_room); (case ku => first | exact Nat.le_of_ble_eq_true rfl | ktr_units)); intro h9 tk9 t9 F9 N9) | (k_here; (with_reducible show wpAny _ _ (binaryOp Operator.Add (Value.str _ _) (Value.str _ _)) _ _ _); k_dflt (refine SBL.add (hsz := ?hsz) ?_; (case hsz => first | with_reducible exact sz2 (by with_reducible assumption) (by with_reducible assumption) | with_reducible exact sz3 (by with_reducible assumption) (by with_reducible assumption) (by with_reducible assumption) | with_reducible exact sz4 (by with_reducible assumption) (by with_reducible assumption) (by with_reducible assumption) (by with_reducible assumption) | with_reducible exact szi (by with_reducible assumption) | (rw [PySem.sizeLine_eq]; (try simp only [Str.length_append, item_len]); omega))); intro _ _ _) | walk1)
    refine' ⟨_, _, _, _, _, rfl, rfl, ?zF, ?zN, ?zM, ?z1, ?z2, ?zS, ?_⟩
    case zF => k_asm
    case zN => k_asm
    case zM => exact List.mem_cons_self
    case z1 => rfl
    case z2 => rfl
    case zS => exact Nat.le_of_ble_eq_true rfl
    intro g' 
    refine comp_inv (fun _ nw => nw = _) (fun _ y => ∃ z t, y = Value.str z t ∧ IsRoot z) ?turnB ?finB rfl
    case turnB =>
      intro i8 nw8 v8 I8 oI8 C8 oC8 D8 m8 ys8 h8 tk8 E8 hi8 hJ8 hv8 hC8 hx8 F8 N8 off8 ne8
      have hv7 : ∃ t, v8 = Value.int (i8 : Int) t := by
        rcases (show i8 = 0 ∨ i8 = 1 from by have : i8 < 2 := hi8; omega) with rfl | rfl <;> cases hv8 <;> exact ⟨_, rfl⟩
      obtain ⟨t8, rfl⟩ := hv7
      subst hJ8
      simp only [LCg.Off3, and_true] at off8
      repeat (rename ((_ ≠ _) ∧ _) ∧ _ => hx9; have hx8 := hx9.1; have hx7 := hx9.2; clear hx9)
      repeat (rename (_ ≠ _) ∧ _ => hx9; have hx8 := hx9.1; have hx7 := hx9.2; clear hx9)
      repeat (rename (_ < _) ∧ _ => hx9; have hx8 := hx9.1; have hx7 := hx9.2; clear hx9)
      iterate 27 (first | (k_here; (with_reducible show wpAny _ _ (call (Value.ref 879) [Value.ref _, Value.int _ _]) _ _ _); k_dflt (refine' law_at _ _ _ _ _ _ ?kl ?kI ?kq ?kq2 ?kn ?kB ?kF ?kX ?kN ?kT ?kk ?kd ?ku ?_; (case kF => k_asm); (case kN => k_asm); (case kB => k_asm); (case kX => k_asm); (case kT => k_asm); (case kk => first | exact rfl | assumption); (case kl => (first | assumption | exact Fr.lst (by k_asm) (by assumption))); (case kI => assumption); (case kq => omega); (case kq2 => omega); (case kn => omega); (case kd => first | exact Nat.le_of_ble_eq_true rfl | ktr_room); (case ku => first | exact Nat.le_of_ble_eq_true rfl | ktr_units)); intro h9 tk9 t9 F9 N9) | (k_here; (with_reducible show wpAny _ _ (call (Value.ref 886) [Value.int _ _]) _ _ _); k_dflt (refine' law_sign _ _ _  ?kB ?kF ?kX ?kN ?kT ?kk ?kd ?ku ?_; (case kF => k_asm); (case kN => k_asm); (case kB => k_asm); (case kX => k_asm); (case kT => k_asm); (case kk => first | exact rfl | assumption); (case kd => first | exact Nat.le_of_ble_eq_true rfl | ktr_room); (case ku => first | exact Nat.le_of_ble_eq_true rfl | ktr_units)); intro h9 tk9 t9 F9 N9) | (k_here; (with_reducible show wpAny _ _ (call (Value.ref 893) [Value.str _ _, Value.int _ _]) _ _ _); k_dflt (refine' pick_s _ _ _ _ _ ?kx ?kx2 ?kB ?kF ?kX ?kN ?kT ?kk ?kd ?ku ?_; (case kF => k_asm); (case kN => k_asm); (case kB => k_asm); (case kX => k_asm); (case kT => k_asm); (case kk => first | exact rfl | assumption); (case kx => (first | omega | decide +kernel | exact Nat.le_of_ble_eq_true rfl)); (case kx2 => (first | omega | decide +kernel | exact Nat.le_of_ble_eq_true rfl)); (case kd => first | exact Nat.le_of_ble_eq_true rfl | ktr_room); (case ku => first | exact Nat.le_of_ble_eq_true rfl | ktr_units)); intro h9 tk9 t9 F9 N9) | (k_here; (with_reducible show wpAny _ _ (binaryOp Operator.Add (Value.str _ _) (Value.str _ _)) _ _ _); k_dflt (refine SBL.add (hsz := ?hsz) ?_; (case hsz => first | with_reducible exact sz2 (by with_reducible assumption) (by with_reducible assumption) | with_reducible exact sz3 (by with_reducible assumption) (by with_reducible assumption) (by with_reducible assumption) | with_reducible exact sz4 (by with_reducible assumption) (by with_reducible assumption) (by with_reducible assumption) (by with_reducible assumption) | with_reducible exact szi (by with_reducible assumption) | (rw [PySem.sizeLine_eq]; (try simp only [Str.length_append, item_len]); omega))); intro _ _ _) | walk1)
      exact ⟨rfl, _, _, rfl, by rw [← hff, ← hmid]; exact isRoot_mk _ hf8 _ _ _ _⟩
    intro ysB nwB hnB hlB hRB
    subst hnB
    obtain ⟨rt, ot, tr, to, hyB, hrt, hot⟩ := strs_two hlB hRB
    subst hyB
    clear hlB hRB
    have hrl : rt.length ≤ 20 := Nat.le_trans hrt.2 (by decide)
    have hol : ot.length ≤ 20 := Nat.le_trans hot.2 (by decide)
    iterate 1 (first | (k_here; (with_reducible show wpAny _ _ (call (Value.ref 879) [Value.ref _, Value.int _ _]) _ _ _); k_dflt (refine' law_at _ _ _ _ _ _ ?kl ?kI ?kq ?kq2 ?kn ?kB ?kF ?kX ?kN ?kT ?kk ?kd ?ku ?_; (case kF => k_asm); (case kN => k_asm); (case kB => k_asm); (case kX => k_asm); (case kT => k_asm); (case kk => first | exact rfl | assumption); (case kl => (first | assumption | exact Fr.lst (by k_asm) (by assumption))); (case kI => assumption); (case kq => omega); (case kq2 => omega); (case kn => omega); (case kd => first | exact Nat.le_of_ble_eq_true rfl | ktr_room); (case ku => first | exact Nat.le_of_ble_eq_true rfl | ktr_units)); intro h9 tk9 t9 F9 N9) | (k_here; (with_reducible show wpAny _ _ (call (Value.ref 886) [Value.int _ _]) _ _ _); k_dflt (refine' law_sign _ _ _  ?kB ?kF ?kX ?kN ?kT ?kk ?kd ?ku ?_; (case kF => k_asm); (case kN => k_asm); (case kB => k_asm); (case kX => k_asm); (case kT => k_asm); (case kk => first | exact rfl | assumption); (case kd => first | exact Nat.le_of_ble_eq_true rfl | ktr_room); (case ku => first | exact Nat.le_of_ble_eq_true rfl | ktr_units)); intro h9 tk9 t9 F9 N9) | (k_here; (with_reducible show wpAny _ _ (call (Value.ref 893) [Value.str _ _, Value.int _ _]) _ _ _); k_dflt (refine' pick_s _ _ _ _ _ ?kx ?kx2 ?kB ?kF ?kX ?kN ?kT ?kk ?kd ?ku ?_; (case kF => k_asm); (case kN => k_asm); (case kB => k_asm); (case kX => k_asm); (case kT => k_asm); (case kk => first | exact rfl | assumption); (case kx => (first | omega | decide +kernel | exact Nat.le_of_ble_eq_true rfl)); (case kx2 => (first | omega | decide +kernel | exact Nat.le_of_ble_eq_true rfl)); (case kd => first | exact Nat.le_of_ble_eq_true rfl | ktr_room); (case ku => first | exact Nat.le_of_ble_eq_true rfl | ktr_units)); intro h9 tk9 t9 F9 N9) | (k_here; (with_reducible show wpAny _ _ (binaryOp Operator.Add (Value.str _ _) (Value.str _ _)) _ _ _); k_dflt (refine SBL.add (hsz := ?hsz) ?_; (case hsz => first | with_reducible exact sz2 (by with_reducible assumption) (by with_reducible assumption) | with_reducible exact sz3 (by with_reducible assumption) (by with_reducible assumption) (by with_reducible assumption) | with_reducible exact sz4 (by with_reducible assumption) (by with_reducible assumption) (by with_reducible assumption) (by with_reducible assumption) | with_reducible exact szi (by with_reducible assumption) | (rw [PySem.sizeLine_eq]; (try simp only [Str.length_append, item_len]); omega))); intro _ _ _) | walk1)
    repeat (rename ((_ ≠ _) ∧ _) ∧ _ => hx9; have hx8 := hx9.1; have hx7 := hx9.2; clear hx9)
    repeat (rename (_ ≠ _) ∧ _ => hx9; have hx8 := hx9.1; have hx7 := hx9.2; clear hx9)
    repeat (rename (_ < _) ∧ _ => hx9; have hx8 := hx9.1; have hx7 := hx9.2; clear hx9)
    iterate 8 (first | (k_here; (with_reducible show wpAny _ _ (call (Value.ref 879) [Value.ref _, Value.int _ _]) _ _ _); k_dflt (refine' law_at _ _ _ _ _ _ ?kl ?kI ?kq ?kq2 ?kn ?kB ?kF ?kX ?kN ?kT ?kk ?kd ?ku ?_; (case kF => k_asm); (case kN => k_asm); (case kB => k_asm); (case kX => k_asm); (case kT => k_asm); (case kk => first | exact rfl | assumption); (case kl => (first | assumption | exact Fr.lst (by k_asm) (by assumption))); (case kI => assumption); (case kq => omega); (case kq2 => omega); (case kn => omega); (case kd => first | exact Nat.le_of_ble_eq_true rfl | ktr_room); (case ku => first | exact Nat.le_of_ble_eq_true rfl | ktr_units)); intro h9 tk9 t9 F9 N9) | (k_here; (with_reducible show wpAny _ _ (call (Value.ref 886) [Value.int _ _]) _ _ _); k_dflt (refine' law_sign _ _ _  ?kB ?kF ?kX ?kN ?kT ?kk ?kd ?ku ?_; (case kF => k_asm); (case kN => k_asm); (case kB => k_asm); (case kX => k_asm); (case kT => k_asm); (case kk => first | exact rfl | assumption); (case kd => first | exact Nat.le_of_ble_eq_true rfl | ktr_room); (case ku => first | exact Nat.le_of_ble_eq_true rfl | ktr_units)); intro h9 tk9 t9 F9 N9) | (k_here; (with_reducible show wpAny _ _ (call (Value.ref 893) [Value.str _ _, Value.int _ _]) _ _ _); k_dflt (refine' pick_s _ _ _ _ _ ?kx ?kx2 ?kB ?kF ?kX ?kN ?kT ?kk ?kd ?ku ?_; (case kF => k_asm); (case kN => k_asm); (case kB => k_asm); (case kX => k_asm); (case kT => k_asm); (case kk => first | exact rfl | assumption); (case kx => (first | omega | decide +kernel | exact Nat.le_of_ble_eq_true rfl)); (case kx2 => (first | omega | decide +kernel | exact Nat.le_of_ble_eq_true rfl)); (case kd => first | exact Nat.le_of_ble_eq_true rfl | ktr_room); (case ku => first | exact Nat.le_of_ble_eq_true rfl | ktr_units)); intro h9 tk9 t9 F9 N9) | (k_here; (with_reducible show wpAny _ _ (binaryOp Operator.Add (Value.str _ _) (Value.str _ _)) _ _ _); k_dflt (refine SBL.add (hsz := ?hsz) ?_; (case hsz => first | with_reducible exact sz2 (by with_reducible assumption) (by with_reducible assumption) | with_reducible exact sz3 (by with_reducible assumption) (by with_reducible assumption) (by with_reducible assumption) | with_reducible exact sz4 (by with_reducible assumption) (by with_reducible assumption) (by with_reducible assumption) (by with_reducible assumption) | with_reducible exact szi (by with_reducible assumption) | (rw [PySem.sizeLine_eq]; (try simp only [Str.length_append, item_len]); omega))); intro _ _ _) | walk1)
    repeat (rename _ ≠ _ => hx9; clear hx9)
    repeat (rename @LT.lt Nat _ _ _ => hx9; clear hx9)
    rename News _ _ _ _ => N5
    have N4 := news_drop4 N5
    clear N5
    iterate 28 (first | (k_here; (with_reducible show wpAny _ _ (call (Value.ref 879) [Value.ref _, Value.int _ _]) _ _ _); k_dflt (refine' law_at _ _ _ _ _ _ ?kl ?kI ?kq ?kq2 ?kn ?kB ?kF ?kX ?kN ?kT ?kk ?kd ?ku ?_; (case kF => k_asm); (case kN => k_asm); (case kB => k_asm); (case kX => k_asm); (case kT => k_asm); (case kk => first | exact rfl | assumption); (case kl => (first | assumption | exact Fr.lst (by k_asm) (by assumption))); (case kI => assumption); (case kq => omega); (case kq2 => omega); (case kn => omega); (case kd => first | exact Nat.le_of_ble_eq_true rfl | ktr_room); (case ku => first | exact Nat.le_of_ble_eq_true rfl | ktr_units)); intro h9 tk9 t9 F9 N9) | (k_here; (with_reducible show wpAny _ _ (call (Value.ref 886) [Value.int _ _]) _ _ _); k_dflt (refine' law_sign _ _ _  ?kB ?kF ?kX ?kN ?kT ?kk ?kd ?ku ?_; (case kF => k_asm); (case kN => k_asm); (case kB => k_asm); (case kX => k_asm); (case kT => k_asm); (case kk => first | exact rfl | assumption); (case kd => first | exact Nat.le_of_ble_eq_true rfl | ktr_room); (case ku => first | exact Nat.le_of_ble_eq_true rfl | ktr_units)); intro h9 tk9 t9 F9 N9) | (k_here; (with_reducible show wpAny _ _ (call (Value.ref 893) [Value.str _ _, Value.int _ _]) _ _ _); k_dflt (refine' pick_s _ _ _ _ _ ?kx ?kx2 ?kB ?kF ?kX ?kN ?kT ?kk ?kd ?ku ?_; (case kF => k_asm); (case kN => k_asm); (case kB => k_asm); (case kX => k_asm); (case kT => k_asm); (case kk => first | exact rfl | assumption); (case kx => (first | omega | decide +kernel | exact Nat.le_of_ble_eq_true rfl)); (case kx2 => (first | omega | decide +kernel | exact Nat.le_of_ble_eq_true rfl)); (case kd => first | exact Nat.le_of_ble_eq_true rfl | ktr_room); (case ku => first | exact Nat.le_of_ble_eq_true rfl | ktr_units)); intro h9 tk9 t9 F9 N9) | (k_here; (with_reducible show wpAny _ _ (binaryOp Operator.Add (Value.str _ _) (Value.str _ _)) _ _ _); k_dflt (refine SBL.add (hsz := ?hsz) ?_; (case hsz => first | with_reducible exact sz2 (by with_reducible assumption) (by with_reducible assumption) | with_reducible exact sz3 (by with_reducible assumption) (by with_reducible assumption) (by with_reducible assumption) | with_reducible exact sz4 (by with_reducible assumption) (by with_reducible assumption) (by with_reducible assumption) (by with_reducible assumption) | with_reducible exact szi (by with_reducible assumption) | (rw [PySem.sizeLine_eq]; (try simp only [Str.length_append, item_len]); omega))); intro _ _ _) | walk1)
    refine LCg.CompSrc.range (n := 10) (by rfl) (by k_asm) (by k_asm) (by assumption) (by first | decide | rfl) (by first | rfl | decide) (by first | size_fits | exact Nat.le_of_ble_eq_true rfl) ?_
    intro g'
    refine comp_inv (fun _ nw => nw = _) (fun _ y => ∃ r t, y = Value.int r t) ?turnD ?finD rfl
    case turnD =>
      intro i8 nw8 v8 I8 oI8 C8 oC8 D8 m8 ys8 h8 tk8 E8 hi8 hJ8 hv8 hC8 hx8 F8 N8 off8 ne8
      obtain ⟨t8, rfl⟩ := hv8
      subst hJ8
      simp only [LCg.Off3, and_true] at off8
      repeat (rename ((_ ≠ _) ∧ _) ∧ _ => hx9; have hx8 := hx9.1; have hx7 := hx9.2; clear hx9)
      repeat (rename (_ ≠ _) ∧ _ => hx9; have hx8 := hx9.1; have hx7 := hx9.2; clear hx9)
      repeat (rename (_ < _) ∧ _ => hx9; have hx8 := hx9.1; have hx7 := hx9.2; clear hx9)
      iterate 18 (first | (k_here; (with_reducible show wpAny _ _ (call (Value.ref 879) [Value.ref _, Value.int _ _]) _ _ _); k_dflt (refine' law_at _ _ _ _ _ _ ?kl ?kI ?kq ?kq2 ?kn ?kB ?kF ?kX ?kN ?kT ?kk ?kd ?ku ?_; (case kF => k_asm); (case kN => k_asm); (case kB => k_asm); (case kX => k_asm); (case kT => k_asm); (case kk => first | exact rfl | assumption); (case kl => (first | assumption | exact Fr.lst (by k_asm) (by assumption))); (case kI => assumption); (case kq => omega); (case kq2 => omega); (case kn => omega); (case kd => first | exact Nat.le_of_ble_eq_true rfl | ktr_room); (case ku => first | exact Nat.le_of_ble_eq_true rfl | ktr_units)); intro h9 tk9 t9 F9 N9) | (k_here; (with_reducible show wpAny _ _ (call (Value.ref 886) [Value.int _ _]) _ _ _); k_dflt (refine' law_sign _ _ _  ?kB ?kF ?kX ?kN ?kT ?kk ?kd ?ku ?_; (case kF => k_asm); (case kN => k_asm); (case kB => k_asm); (case kX => k_asm); (case kT => k_asm); (case kk => first | exact rfl | assumption); (case kd => first | exact Nat.le_of_ble_eq_true rfl | ktr_room); (case ku => first | exact Nat.le_of_ble_eq_true rfl | ktr_units)); intro h9 tk9 t9 F9 N9) | (k_here; (with_reducible show wpAny _ _ (call (Value.ref 893) [Value.str _ _, Value.int _ _]) _ _ _); k_dflt (refine' pick_s _ _ _ _ _ ?kx ?kx2 ?kB ?kF ?kX ?kN ?kT ?kk ?kd ?ku ?_; (case kF => k_asm); (case kN => k_asm); (case kB => k_asm); (case kX => k_asm); (case kT => k_asm); (case kk => first | exact rfl | assumption); (case kx => (first | omega | decide +kernel | exact Nat.le_of_ble_eq_true rfl)); (case kx2 => (first | omega | decide +kernel | exact Nat.le_of_ble_eq_true rfl)); (case kd => first | exact Nat.le_of_ble_eq_true rfl | ktr_room); (case ku => first | exact Nat.le_of_ble_eq_true rfl | ktr_units)); intro h9 tk9 t9 F9 N9) | (k_here; (with_reducible show wpAny _ _ (binaryOp Operator.Add (Value.str _ _) (Value.str _ _)) _ _ _); k_dflt (refine SBL.add (hsz := ?hsz) ?_; (case hsz => first | with_reducible exact sz2 (by with_reducible assumption) (by with_reducible assumption) | with_reducible exact sz3 (by with_reducible assumption) (by with_reducible assumption) (by with_reducible assumption) | with_reducible exact sz4 (by with_reducible assumption) (by with_reducible assumption) (by with_reducible assumption) (by with_reducible assumption) | with_reducible exact szi (by with_reducible assumption) | (rw [PySem.sizeLine_eq]; (try simp only [Str.length_append, item_len]); omega))); intro _ _ _) | walk1)
      exact ⟨rfl, _, _, rfl⟩
    intro ysD nwD hnD hlD hRD
    subst hnD
    obtain ⟨d0, d1, d2, d3, d4, d5, d6, d7, d8, d9, e0, e1, e2, e3, e4, e5, e6, e7, e8, e9, hysD⟩ := ints_ten hlD hRD
    subst hysD
    clear hlD hRD
    iterate 1 (first | (k_here; (with_reducible show wpAny _ _ (call (Value.ref 879) [Value.ref _, Value.int _ _]) _ _ _); k_dflt (refine' law_at _ _ _ _ _ _ ?kl ?kI ?kq ?kq2 ?kn ?kB ?kF ?kX ?kN ?kT ?kk ?kd ?ku ?_; (case kF => k_asm); (case kN => k_asm); (case kB => k_asm); (case kX => k_asm); (case kT => k_asm); (case kk => first | exact rfl | assumption); (case kl => (first | assumption | exact Fr.lst (by k_asm) (by assumption))); (case kI => assumption); (case kq => omega); (case kq2 => omega); (case kn => omega); (case kd => first | exact Nat.le_of_ble_eq_true rfl | ktr_room); (case ku => first | exact Nat.le_of_ble_eq_true rfl | ktr_units)); intro h9 tk9 t9 F9 N9) | (k_here; (with_reducible show wpAny _ _ (call (Value.ref 886) [Value.int _ _]) _ _ _); k_dflt (refine' law_sign _ _ _  ?kB ?kF ?kX ?kN ?kT ?kk ?kd ?ku ?_; (case kF => k_asm); (case kN => k_asm); (case kB => k_asm); (case kX => k_asm); (case kT => k_asm); (case kk => first | exact rfl | assumption); (case kd => first | exact Nat.le_of_ble_eq_true rfl | ktr_room); (case ku => first | exact Nat.le_of_ble_eq_true rfl | ktr_units)); intro h9 tk9 t9 F9 N9) | (k_here; (with_reducible show wpAny _ _ (call (Value.ref 893) [Value.str _ _, Value.int _ _]) _ _ _); k_dflt (refine' pick_s _ _ _ _ _ ?kx ?kx2 ?kB ?kF ?kX ?kN ?kT ?kk ?kd ?ku ?_; (case kF => k_asm); (case kN => k_asm); (case kB => k_asm); (case kX => k_asm); (case kT => k_asm); (case kk => first | exact rfl | assumption); (case kx => (first | omega | decide +kernel | exact Nat.le_of_ble_eq_true rfl)); (case kx2 => (first | omega | decide +kernel | exact Nat.le_of_ble_eq_true rfl)); (case kd => first | exact Nat.le_of_ble_eq_true rfl | ktr_room); (case ku => first | exact Nat.le_of_ble_eq_true rfl | ktr_units)); intro h9 tk9 t9 F9 N9) | (k_here; (with_reducible show wpAny _ _ (binaryOp Operator.Add (Value.str _ _) (Value.str _ _)) _ _ _); k_dflt (refine SBL.add (hsz := ?hsz) ?_; (case hsz => first | with_reducible exact sz2 (by with_reducible assumption) (by with_reducible assumption) | with_reducible exact sz3 (by with_reducible assumption) (by with_reducible assumption) (by with_reducible assumption) | with_reducible exact sz4 (by with_reducible assumption) (by with_reducible assumption) (by with_reducible assumption) (by with_reducible assumption) | with_reducible exact szi (by with_reducible assumption) | (rw [PySem.sizeLine_eq]; (try simp only [Str.length_append, item_len]); omega))); intro _ _ _) | walk1)
    repeat (rename ((_ ≠ _) ∧ _) ∧ _ => hx9; have hx8 := hx9.1; have hx7 := hx9.2; clear hx9)
    repeat (rename (_ ≠ _) ∧ _ => hx9; have hx8 := hx9.1; have hx7 := hx9.2; clear hx9)
    repeat (rename (_ < _) ∧ _ => hx9; have hx8 := hx9.1; have hx7 := hx9.2; clear hx9)
    iterate 1 (first | (k_here; (with_reducible show wpAny _ _ (call (Value.ref 879) [Value.ref _, Value.int _ _]) _ _ _); k_dflt (refine' law_at _ _ _ _ _ _ ?kl ?kI ?kq ?kq2 ?kn ?kB ?kF ?kX ?kN ?kT ?kk ?kd ?ku ?_; (case kF => k_asm); (case kN => k_asm); (case kB => k_asm); (case kX => k_asm); (case kT => k_asm); (case kk => first | exact rfl | assumption); (case kl => (first | assumption | exact Fr.lst (by k_asm) (by assumption))); (case kI => assumption); (case kq => omega); (case kq2 => omega); (case kn => omega); (case kd => first | exact Nat.le_of_ble_eq_true rfl | ktr_room); (case ku => first | exact Nat.le_of_ble_eq_true rfl | ktr_units)); intro h9 tk9 t9 F9 N9) | (k_here; (with_reducible show wpAny _ _ (call (Value.ref 886) [Value.int _ _]) _ _ _); k_dflt (refine' law_sign _ _ _  ?kB ?kF ?kX ?kN ?kT ?kk ?kd ?ku ?_; (case kF => k_asm); (case kN => k_asm); (case kB => k_asm); (case kX => k_asm); (case kT => k_asm); (case kk => first | exact rfl | assumption); (case kd => first | exact Nat.le_of_ble_eq_true rfl | ktr_room); (case ku => first | exact Nat.le_of_ble_eq_true rfl | ktr_units)); intro h9 tk9 t9 F9 N9) | (k_here; (with_reducible show wpAny _ _ (call (Value.ref 893) [Value.str _ _, Value.int _ _]) _ _ _); k_dflt (refine' pick_s _ _ _ _ _ ?kx ?kx2 ?kB ?kF ?kX ?kN ?kT ?kk ?kd ?ku ?_; (case kF => k_asm); (case kN => k_asm); (case kB => k_asm); (case kX => k_asm); (case kT => k_asm); (case kk => first | exact rfl | assumption); (case kx => (first | omega | decide +kernel | exact Nat.le_of_ble_eq_true rfl)); (case kx2 => (first | omega | decide +kernel | exact Nat.le_of_ble_eq_true rfl)); (case kd => first | exact Nat.le_of_ble_eq_true rfl | ktr_room); (case ku => first | exact Nat.le_of_ble_eq_true rfl | ktr_units)); intro h9 tk9 t9 F9 N9) | (k_here; (with_reducible show wpAny _ _ (binaryOp Operator.Add (Value.str _ _) (Value.str _ _)) _ _ _); k_dflt (refine SBL.add (hsz := ?hsz) ?_; (case hsz => first | with_reducible exact sz2 (by with_reducible assumption) (by with_reducible assumption) | with_reducible exact sz3 (by with_reducible assumption) (by with_reducible assumption) (by with_reducible assumption) | with_reducible exact sz4 (by with_reducible assumption) (by with_reducible assumption) (by with_reducible assumption) (by with_reducible assumption) | with_reducible exact szi (by with_reducible assumption) | (rw [PySem.sizeLine_eq]; (try simp only [Str.length_append, item_len]); omega))); intro _ _ _) | walk1)
    repeat (rename _ ≠ _ => hx9; clear hx9)
    repeat (rename @LT.lt Nat _ _ _ => hx9; clear hx9)
    rename News _ _ _ _ => N5
    have N4 := news_drop1 N5
    clear N5
    iterate 8 (first | (k_here; (with_reducible show wpAny _ _ (call (Value.ref 879) [Value.ref _, Value.int _ _]) _ _ _); k_dflt (refine' law_at _ _ _ _ _ _ ?kl ?kI ?kq ?kq2 ?kn ?kB ?kF ?kX ?kN ?kT ?kk ?kd ?ku ?_; (case kF => k_asm); (case kN => k_asm); (case kB => k_asm); (case kX => k_asm); (case kT => k_asm); (case kk => first | exact rfl | assumption); (case kl => (first | assumption | exact Fr.lst (by k_asm) (by assumption))); (case kI => assumption); (case kq => omega); (case kq2 => omega); (case kn => omega); (case kd => first | exact Nat.le_of_ble_eq_true rfl | ktr_room); (case ku => first | exact Nat.le_of_ble_eq_true rfl | ktr_units)); intro h9 tk9 t9 F9 N9) | (k_here; (with_reducible show wpAny _ _ (call (Value.ref 886) [Value.int _ _]) _ _ _); k_dflt (refine' law_sign _ _ _  ?kB ?kF ?kX ?kN ?kT ?kk ?kd ?ku ?_; (case kF => k_asm); (case kN => k_asm); (case kB => k_asm); (case kX => k_asm); (case kT => k_asm); (case kk => first | exact rfl | assumption); (case kd => first | exact Nat.le_of_ble_eq_true rfl | ktr_room); (case ku => first | exact Nat.le_of_ble_eq_true rfl | ktr_units)); intro h9 tk9 t9 F9 N9) | (k_here; (with_reducible show wpAny _ _ (call (Value.ref 893) [Value.str _ _, Value.int _ _]) _ _ _); k_dflt (refine' pick_s _ _ _ _ _ ?kx ?kx2 ?kB ?kF ?kX ?kN ?kT ?kk ?kd ?ku ?_; (case kF => k_asm); (case kN => k_asm); (case kB => k_asm); (case kX => k_asm); (case kT => k_asm); (case kk => first | exact rfl | assumption); (case kx => (first | omega | decide +kernel | exact Nat.le_of_ble_eq_true rfl)); (case kx2 => (first | omega | decide +kernel | exact Nat.le_of_ble_eq_true rfl)); (case kd => first | exact Nat.le_of_ble_eq_true rfl | ktr_room); (case ku => first | exact Nat.le_of_ble_eq_true rfl | ktr_units)); intro h9 tk9 t9 F9 N9) | (k_here; (with_reducible show wpAny _ _ (binaryOp Operator.Add (Value.str _ _) (Value.str _ _)) _ _ _); k_dflt (refine SBL.add (hsz := ?hsz) ?_; (case hsz => first | with_reducible exact sz2 (by with_reducible assumption) (by with_reducible assumption) | with_reducible exact sz3 (by with_reducible assumption) (by with_reducible assumption) (by with_reducible assumption) | with_reducible exact sz4 (by with_reducible assumption) (by with_reducible assumption) (by with_reducible assumption) (by with_reducible assumption) | with_reducible exact szi (by with_reducible assumption) | (rw [PySem.sizeLine_eq]; (try simp only [Str.length_append, item_len]); omega))); intro _ _ _) | walk1)
    repeat (rename ((_ ≠ _) ∧ _) ∧ _ => hx9; have hx8 := hx9.1; have hx7 := hx9.2; clear hx9)
    repeat (rename (_ ≠ _) ∧ _ => hx9; have hx8 := hx9.1; have hx7 := hx9.2; clear hx9)
    repeat (rename (_ < _) ∧ _ => hx9; have hx8 := hx9.1; have hx7 := hx9.2; clear hx9)
    k_dflt (refine LCg.ListComp_U (F₀ := by k_asm) (by rfl) (by decide) (by rfl) (by decide) (by rfl) ?_)
    iterate 7 (first | (k_here; (with_reducible show wpAny _ _ (call (Value.ref 879) [Value.ref _, Value.int _ _]) _ _ _); k_dflt (refine' law_at _ _ _ _ _ _ ?kl ?kI ?kq ?kq2 ?kn ?kB ?kF ?kX ?kN ?kT ?kk ?kd ?ku ?_; (case kF => k_asm); (case kN => k_asm); (case kB => k_asm); (case kX => k_asm); (case kT => k_asm); (case kk => first | exact rfl | assumption); (case kl => (first | assumption | exact Fr.lst (by k_asm) (by assumption))); (case kI => assumption); (case kq => omega); (case kq2 => omega); (case kn => omega); (case kd => first | exact Nat.le_of_ble_eq_true rfl | ktr_room); (case ku => first | exact Nat.le_of_ble_eq_true rfl | ktr_units)); intro h9 tk9 t9 F9 N9) | (k_here; (with_reducible show wpAny _ _ (call (Value.ref 886) [Value.int _ _]) _ _ _); k_dflt (refine' law_sign _ _ _  ?kB ?kF ?kX ?kN ?kT ?kk ?kd ?ku ?_; (case kF => k_asm); (case kN => k_asm); (case kB => k_asm); (case kX => k_asm); (case kT => k_asm); (case kk => first | exact rfl | assumption); (case kd => first | exact Nat.le_of_ble_eq_true rfl | ktr_room); (case ku => first | exact Nat.le_of_ble_eq_true rfl | ktr_units)); intro h9 tk9 t9 F9 N9) | (k_here; (with_reducible show wpAny _ _ (call (Value.ref 893) [Value.str _ _, Value.int _ _]) _ _ _); k_dflt (refine' pick_s _ _ _ _ _ ?kx ?kx2 ?kB ?kF ?kX ?kN ?kT ?kk ?kd ?ku ?_; (case kF => k_asm); (case kN => k_asm); (case kB => k_asm); (case kX => k_asm); (case kT => k_asm); (case kk => first | exact rfl | assumption); (case kx => (first | omega | decide +kernel | exact Nat.le_of_ble_eq_true rfl)); (case kx2 => (first | omega | decide +kernel | exact Nat.le_of_ble_eq_true rfl)); (case kd => first | exact Nat.le_of_ble_eq_true rfl | ktr_room); (case ku => first | exact Nat.le_of_ble_eq_true rfl | ktr_units)); intro h9 tk9 t9 F9 N9) | (k_here; (with_reducible show wpAny _ _ (binaryOp Operator.Add (Value.str _ _) (Value.str _ _)) _ _ _); k_dflt (refine SBL.add (hsz := ?hsz) ?_; (case hsz => first | with_reducible exact sz2 (by with_reducible assumption) (by with_reducible assumption) | with_reducible exact sz3 (by with_reducible assumption) (by with_reducible assumption) (by with_reducible assumption) | with_reducible exact sz4 (by with_reducible assumption) (by with_reducible assumption) (by with_reducible assumption) (by with_reducible assumption) | with_reducible exact szi (by with_reducible assumption) | (rw [PySem.sizeLine_eq]; (try simp only [Str.length_append, item_len]); omega))); intro _ _ _) | walk1)
    refine LCg.CompSrc.range (n := 3) (by rfl) (by k_asm) (by k_asm) (by assumption) (by first | decide | rfl) (by first | rfl | decide) (by first | size_fits | exact Nat.le_of_ble_eq_true rfl) ?_
    intro g'
    refine comp_inv (fun _ nw => nw = _) (fun _ y => ∃ z t, y = Value.str z t ∧ ∃ x, x ∈ casesS ∧ x.length ≤ 20 ∧ z = rt ++ x) ?turnF ?finF rfl
    case turnF =>
      intro i8 nw8 v8 I8 oI8 C8 oC8 D8 m8 ys8 h8 tk8 E8 hi8 hJ8 hv8 hC8 hx8 F8 N8 off8 ne8
      have hv7 : ∃ t, v8 = Value.int (i8 : Int) t := by
        obtain ⟨t, ht⟩ := hv8
        exact ⟨t, by rw [ht, Int.zero_add]⟩
      obtain ⟨t8, rfl⟩ := hv7
      subst hJ8
      simp only [LCg.Off3, and_true] at off8
      repeat (rename ((_ ≠ _) ∧ _) ∧ _ => hx9; have hx8 := hx9.1; have hx7 := hx9.2; clear hx9)
      repeat (rename (_ ≠ _) ∧ _ => hx9; have hx8 := hx9.1; have hx7 := hx9.2; clear hx9)
      repeat (rename (_ < _) ∧ _ => hx9; have hx8 := hx9.1; have hx7 := hx9.2; clear hx9)
      iterate 13 (first | (k_here; (with_reducible show wpAny _ _ (call (Value.ref 893) [Value.ref 868, Value.int _ _]) _ _ _); k_dflt (refine' pick_w 868 casesS 3160 shortCases _ _ _ ?kl ?kB ?kF ?kX ?kN ?kT ?kk ?kd ?ku ?_; (case kF => k_asm); (case kN => k_asm); (case kB => k_asm); (case kX => k_asm); (case kT => k_asm); (case kk => first | exact rfl | assumption); (case kl => exact lstK (by k_asm) (k868 _)); (case kd => first | exact Nat.le_of_ble_eq_true rfl | ktr_room); (case ku => first | exact Nat.le_of_ble_eq_true rfl | ktr_units)); intro h9 tk9 x9 u9 m9 l9 F9 N9) | (k_here; (with_reducible show wpAny _ _ (call (Value.ref 893) [Value.ref 869, Value.int _ _]) _ _ _); k_dflt (refine' pick_w 869 pluralsS 3218 shortPlurals _ _ _ ?kl ?kB ?kF ?kX ?kN ?kT ?kk ?kd ?ku ?_; (case kF => k_asm); (case kN => k_asm); (case kB => k_asm); (case kX => k_asm); (case kT => k_asm); (case kk => first | exact rfl | assumption); (case kl => exact lstK (by k_asm) (k869 _)); (case kd => first | exact Nat.le_of_ble_eq_true rfl | ktr_room); (case ku => first | exact Nat.le_of_ble_eq_true rfl | ktr_units)); intro h9 tk9 x9 u9 m9 l9 F9 N9) | (k_here; (with_reducible show wpAny _ _ (call (Value.ref 893) [Value.ref 870, Value.int _ _]) _ _ _); k_dflt (refine' pick_w 870 nounsS 3228 shortNouns _ _ _ ?kl ?kB ?kF ?kX ?kN ?kT ?kk ?kd ?ku ?_; (case kF => k_asm); (case kN => k_asm); (case kB => k_asm); (case kX => k_asm); (case kT => k_asm); (case kk => first | exact rfl | assumption); (case kl => exact lstK (by k_asm) (k870 _)); (case kd => first | exact Nat.le_of_ble_eq_true rfl | ktr_room); (case ku => first | exact Nat.le_of_ble_eq_true rfl | ktr_units)); intro h9 tk9 x9 u9 m9 l9 F9 N9) | (k_here; (with_reducible show wpAny _ _ (call (Value.ref 893) [Value.ref 871, Value.int _ _]) _ _ _); k_dflt (refine' pick_w 871 adjectivesS 3266 shortAdjectives _ _ _ ?kl ?kB ?kF ?kX ?kN ?kT ?kk ?kd ?ku ?_; (case kF => k_asm); (case kN => k_asm); (case kB => k_asm); (case kX => k_asm); (case kT => k_asm); (case kk => first | exact rfl | assumption); (case kl => exact lstK (by k_asm) (k871 _)); (case kd => first | exact Nat.le_of_ble_eq_true rfl | ktr_room); (case ku => first | exact Nat.le_of_ble_eq_true rfl | ktr_units)); intro h9 tk9 x9 u9 m9 l9 F9 N9) | (k_here; (with_reducible show wpAny _ _ (call (Value.ref 893) [Value.ref 872, Value.int _ _]) _ _ _); k_dflt (refine' pick_w 872 verbsS 3288 shortVerbs _ _ _ ?kl ?kB ?kF ?kX ?kN ?kT ?kk ?kd ?ku ?_; (case kF => k_asm); (case kN => k_asm); (case kB => k_asm); (case kX => k_asm); (case kT => k_asm); (case kk => first | exact rfl | assumption); (case kl => exact lstK (by k_asm) (k872 _)); (case kd => first | exact Nat.le_of_ble_eq_true rfl | ktr_room); (case ku => first | exact Nat.le_of_ble_eq_true rfl | ktr_units)); intro h9 tk9 x9 u9 m9 l9 F9 N9) | (k_here; (with_reducible show wpAny _ _ (binaryOp Operator.Add (Value.str _ _) (Value.str _ _)) _ _ _); k_dflt (refine SBL.add (hsz := ?hsz) ?_; (case hsz => first | with_reducible exact sz2 (by with_reducible assumption) (by with_reducible assumption) | with_reducible exact sz3 (by with_reducible assumption) (by with_reducible assumption) (by with_reducible assumption) | with_reducible exact sz4 (by with_reducible assumption) (by with_reducible assumption) (by with_reducible assumption) (by with_reducible assumption) | with_reducible exact szi (by with_reducible assumption) | (rw [PySem.sizeLine_eq]; (try simp only [Str.length_append, item_len]); omega))); intro _ _ _) | walk1)
      have hd8 : ∃ d e, ([Value.int d0 e0, Value.int d1 e1, Value.int d2 e2, Value.int d3 e3, Value.int d4 e4, Value.int d5 e5, Value.int d6 e6, Value.int d7 e7, Value.int d8 e8, Value.int d9 e9] : List Value)[((i8 : Nat) : Int).toNat]? = some (Value.int d e) := by
        rcases (show i8 = 0 ∨ i8 = 1 ∨ i8 = 2 from by omega) with rfl | rfl | rfl <;> exact ⟨_, _, rfl⟩
      obtain ⟨d, e, hd8⟩ := hd8
      refine' item_listL (News.isList ?zf ?zl) ?zh0 ?zh1 ?zx ?_
      case zf => k_asm
      case zl => k_mem
      case zh0 => omega
      case zh1 => omega
      case zx => exact hd8
      iterate 10 (first | (k_here; (with_reducible show wpAny _ _ (call (Value.ref 893) [Value.ref 868, Value.int _ _]) _ _ _); k_dflt (refine' pick_w 868 casesS 3160 shortCases _ _ _ ?kl ?kB ?kF ?kX ?kN ?kT ?kk ?kd ?ku ?_; (case kF => k_asm); (case kN => k_asm); (case kB => k_asm); (case kX => k_asm); (case kT => k_asm); (case kk => first | exact rfl | assumption); (case kl => exact lstK (by k_asm) (k868 _)); (case kd => first | exact Nat.le_of_ble_eq_true rfl | ktr_room); (case ku => first | exact Nat.le_of_ble_eq_true rfl | ktr_units)); intro h9 tk9 x9 u9 m9 l9 F9 N9) | (k_here; (with_reducible show wpAny _ _ (call (Value.ref 893) [Value.ref 869, Value.int _ _]) _ _ _); k_dflt (refine' pick_w 869 pluralsS 3218 shortPlurals _ _ _ ?kl ?kB ?kF ?kX ?kN ?kT ?kk ?kd ?ku ?_; (case kF => k_asm); (case kN => k_asm); (case kB => k_asm); (case kX => k_asm); (case kT => k_asm); (case kk => first | exact rfl | assumption); (case kl => exact lstK (by k_asm) (k869 _)); (case kd => first | exact Nat.le_of_ble_eq_true rfl | ktr_room); (case ku => first | exact Nat.le_of_ble_eq_true rfl | ktr_units)); intro h9 tk9 x9 u9 m9 l9 F9 N9) | (k_here; (with_reducible show wpAny _ _ (call (Value.ref 893) [Value.ref 870, Value.int _ _]) _ _ _); k_dflt (refine' pick_w 870 nounsS 3228 shortNouns _ _ _ ?kl ?kB ?kF ?kX ?kN ?kT ?kk ?kd ?ku ?_; (case kF => k_asm); (case kN => k_asm); (case kB => k_asm); (case kX => k_asm); (case kT => k_asm); (case kk => first | exact rfl | assumption); (case kl => exact lstK (by k_asm) (k870 _)); (case kd => first | exact Nat.le_of_ble_eq_true rfl | ktr_room); (case ku => first | exact Nat.le_of_ble_eq_true rfl | ktr_units)); intro h9 tk9 x9 u9 m9 l9 F9 N9) | (k_here; (with_reducible show wpAny _ _ (call (Value.ref 893) [Value.ref 871, Value.int _ _]) _ _ _); k_dflt (refine' pick_w 871 adjectivesS 3266 shortAdjectives _ _ _ ?kl ?kB ?kF ?kX ?kN ?kT ?kk ?kd ?ku ?_; (case kF => k_asm); (case kN => k_asm); (case kB => k_asm); (case kX => k_asm); (case kT => k_asm); (case kk => first | exact rfl | assumption); (case kl => exact lstK (by k_asm) (k871 _)); (case kd => first | exact Nat.le_of_ble_eq_true rfl | ktr_room); (case ku => first | exact Nat.le_of_ble_eq_true rfl | ktr_units)); intro h9 tk9 x9 u9 m9 l9 F9 N9) | (k_here; (with_reducible show wpAny _ _ (call (Value.ref 893) [Value.ref 872, Value.int _ _]) _ _ _); k_dflt (refine' pick_w 872 verbsS 3288 shortVerbs _ _ _ ?kl ?kB ?kF ?kX ?kN ?kT ?kk ?kd ?ku ?_; (case kF => k_asm); (case kN => k_asm); (case kB => k_asm); (case kX => k_asm); (case kT => k_asm); (case kk => first | exact rfl | assumption); (case kl => exact lstK (by k_asm) (k872 _)); (case kd => first | exact Nat.le_of_ble_eq_true rfl | ktr_room); (case ku => first | exact Nat.le_of_ble_eq_true rfl | ktr_units)); intro h9 tk9 x9 u9 m9 l9 F9 N9) | (k_here; (with_reducible show wpAny _ _ (binaryOp Operator.Add (Value.str _ _) (Value.str _ _)) _ _ _); k_dflt (refine SBL.add (hsz := ?hsz) ?_; (case hsz => first | with_reducible exact sz2 (by with_reducible assumption) (by with_reducible assumption) | with_reducible exact sz3 (by with_reducible assumption) (by with_reducible assumption) (by with_reducible assumption) | with_reducible exact sz4 (by with_reducible assumption) (by with_reducible assumption) (by with_reducible assumption) (by with_reducible assumption) | with_reducible exact szi (by with_reducible assumption) | (rw [PySem.sizeLine_eq]; (try simp only [Str.length_append, item_len]); omega))); intro _ _ _) | walk1)
      exact ⟨rfl, _, _, rfl, _, by assumption, by assumption, rfl⟩
    intro ysF nwF hnF hlF hRF
    subst hnF
    obtain ⟨z0, z1, z2, u0, u1, u2, hyF, ⟨x0, hx0, lx0, hz0⟩, ⟨x1, hx1, lx1, hz1⟩, ⟨x2, hx2, lx2, hz2⟩⟩ := strs_three hlF hRF
    subst hyF
    clear hlF hRF
    have hs0 : Stems z0 rt := hz0 ▸ hrt.case_ hx0
    have hs1 : Stems z1 rt := hz1 ▸ hrt.case_ hx1
    have hs2 : Stems z2 rt := hz2 ▸ hrt.case_ hx2
    have hl0 : z0.length ≤ 100 := by rw [hz0]; exact len2 hrl lx0
    have hl1 : z1.length ≤ 100 := by rw [hz1]; exact len2 hrl lx1
    have hl2 : z2.length ≤ 100 := by rw [hz2]; exact len2 hrl lx2
    clear hz0 hz1 hz2 hx0 hx1 hx2 lx0 lx1 lx2
    iterate 1 (first | (k_here; (with_reducible show wpAny _ _ (call (Value.ref 893) [Value.ref 868, Value.int _ _]) _ _ _); k_dflt (refine' pick_w 868 casesS 3160 shortCases _ _ _ ?kl ?kB ?kF ?kX ?kN ?kT ?kk ?kd ?ku ?_; (case kF => k_asm); (case kN => k_asm); (case kB => k_asm); (case kX => k_asm); (case kT => k_asm); (case kk => first | exact rfl | assumption); (case kl => exact lstK (by k_asm) (k868 _)); (case kd => first | exact Nat.le_of_ble_eq_true rfl | ktr_room); (case ku => first | exact Nat.le_of_ble_eq_true rfl | ktr_units)); intro h9 tk9 x9 u9 m9 l9 F9 N9) | (k_here; (with_reducible show wpAny _ _ (call (Value.ref 893) [Value.ref 869, Value.int _ _]) _ _ _); k_dflt (refine' pick_w 869 pluralsS 3218 shortPlurals _ _ _ ?kl ?kB ?kF ?kX ?kN ?kT ?kk ?kd ?ku ?_; (case kF => k_asm); (case kN => k_asm); (case kB => k_asm); (case kX => k_asm); (case kT => k_asm); (case kk => first | exact rfl | assumption); (case kl => exact lstK (by k_asm) (k869 _)); (case kd => first | exact Nat.le_of_ble_eq_true rfl | ktr_room); (case ku => first | exact Nat.le_of_ble_eq_true rfl | ktr_units)); intro h9 tk9 x9 u9 m9 l9 F9 N9) | (k_here; (with_reducible show wpAny _ _ (call (Value.ref 893) [Value.ref 870, Value.int _ _]) _ _ _); k_dflt (refine' pick_w 870 nounsS 3228 shortNouns _ _ _ ?kl ?kB ?kF ?kX ?kN ?kT ?kk ?kd ?ku ?_; (case kF => k_asm); (case kN => k_asm); (case kB => k_asm); (case kX => k_asm); (case kT => k_asm); (case kk => first | exact rfl | assumption); (case kl => exact lstK (by k_asm) (k870 _)); (case kd => first | exact Nat.le_of_ble_eq_true rfl | ktr_room); (case ku => first | exact Nat.le_of_ble_eq_true rfl | ktr_units)); intro h9 tk9 x9 u9 m9 l9 F9 N9) | (k_here; (with_reducible show wpAny _ _ (call (Value.ref 893) [Value.ref 871, Value.int _ _]) _ _ _); k_dflt (refine' pick_w 871 adjectivesS 3266 shortAdjectives _ _ _ ?kl ?kB ?kF ?kX ?kN ?kT ?kk ?kd ?ku ?_; (case kF => k_asm); (case kN => k_asm); (case kB => k_asm); (case kX => k_asm); (case kT => k_asm); (case kk => first | exact rfl | assumption); (case kl => exact lstK (by k_asm) (k871 _)); (case kd => first | exact Nat.le_of_ble_eq_true rfl | ktr_room); (case ku => first | exact Nat.le_of_ble_eq_true rfl | ktr_units)); intro h9 tk9 x9 u9 m9 l9 F9 N9) | (k_here; (with_reducible show wpAny _ _ (call (Value.ref 893) [Value.ref 872, Value.int _ _]) _ _ _); k_dflt (refine' pick_w 872 verbsS 3288 shortVerbs _ _ _ ?kl ?kB ?kF ?kX ?kN ?kT ?kk ?kd ?ku ?_; (case kF => k_asm); (case kN => k_asm); (case kB => k_asm); (case kX => k_asm); (case kT => k_asm); (case kk => first | exact rfl | assumption); (case kl => exact lstK (by k_asm) (k872 _)); (case kd => first | exact Nat.le_of_ble_eq_true rfl | ktr_room); (case ku => first | exact Nat.le_of_ble_eq_true rfl | ktr_units)); intro h9 tk9 x9 u9 m9 l9 F9 N9) | (k_here; (with_reducible show wpAny _ _ (binaryOp Operator.Add (Value.str _ _) (Value.str _ _)) _ _ _); k_dflt (refine SBL.add (hsz := ?hsz) ?_; (case hsz => first | with_reducible exact sz2 (by with_reducible assumption) (by with_reducible assumption) | with_reducible exact sz3 (by with_reducible assumption) (by with_reducible assumption) (by with_reducible assumption) | with_reducible exact sz4 (by with_reducible assumption) (by with_reducible assumption) (by with_reducible assumption) (by with_reducible assumption) | with_reducible exact szi (by with_reducible assumption) | (rw [PySem.sizeLine_eq]; (try simp only [Str.length_append, item_len]); omega))); intro _ _ _) | walk1)
    repeat (rename ((_ ≠ _) ∧ _) ∧ _ => hx9; have hx8 := hx9.1; have hx7 := hx9.2; clear hx9)
    repeat (rename (_ ≠ _) ∧ _ => hx9; have hx8 := hx9.1; have hx7 := hx9.2; clear hx9)
    repeat (rename (_ < _) ∧ _ => hx9; have hx8 := hx9.1; have hx7 := hx9.2; clear hx9)
    iterate 14 (first | (k_here; (with_reducible show wpAny _ _ (call (Value.ref 893) [Value.ref 868, Value.int _ _]) _ _ _); k_dflt (refine' pick_w 868 casesS 3160 shortCases _ _ _ ?kl ?kB ?kF ?kX ?kN ?kT ?kk ?kd ?ku ?_; (case kF => k_asm); (case kN => k_asm); (case kB => k_asm); (case kX => k_asm); (case kT => k_asm); (case kk => first | exact rfl | assumption); (case kl => exact lstK (by k_asm) (k868 _)); (case kd => first | exact Nat.le_of_ble_eq_true rfl | ktr_room); (case ku => first | exact Nat.le_of_ble_eq_true rfl | ktr_units)); intro h9 tk9 x9 u9 m9 l9 F9 N9) | (k_here; (with_reducible show wpAny _ _ (call (Value.ref 893) [Value.ref 869, Value.int _ _]) _ _ _); k_dflt (refine' pick_w 869 pluralsS 3218 shortPlurals _ _ _ ?kl ?kB ?kF ?kX ?kN ?kT ?kk ?kd ?ku ?_; (case kF => k_asm); (case kN => k_asm); (case kB => k_asm); (case kX => k_asm); (case kT => k_asm); (case kk => first | exact rfl | assumption); (case kl => exact lstK (by k_asm) (k869 _)); (case kd => first | exact Nat.le_of_ble_eq_true rfl | ktr_room); (case ku => first | exact Nat.le_of_ble_eq_true rfl | ktr_units)); intro h9 tk9 x9 u9 m9 l9 F9 N9) | (k_here; (with_reducible show wpAny _ _ (call (Value.ref 893) [Value.ref 870, Value.int _ _]) _ _ _); k_dflt (refine' pick_w 870 nounsS 3228 shortNouns _ _ _ ?kl ?kB ?kF ?kX ?kN ?kT ?kk ?kd ?ku ?_; (case kF => k_asm); (case kN => k_asm); (case kB => k_asm); (case kX => k_asm); (case kT => k_asm); (case kk => first | exact rfl | assumption); (case kl => exact lstK (by k_asm) (k870 _)); (case kd => first | exact Nat.le_of_ble_eq_true rfl | ktr_room); (case ku => first | exact Nat.le_of_ble_eq_true rfl | ktr_units)); intro h9 tk9 x9 u9 m9 l9 F9 N9) | (k_here; (with_reducible show wpAny _ _ (call (Value.ref 893) [Value.ref 871, Value.int _ _]) _ _ _); k_dflt (refine' pick_w 871 adjectivesS 3266 shortAdjectives _ _ _ ?kl ?kB ?kF ?kX ?kN ?kT ?kk ?kd ?ku ?_; (case kF => k_asm); (case kN => k_asm); (case kB => k_asm); (case kX => k_asm); (case kT => k_asm); (case kk => first | exact rfl | assumption); (case kl => exact lstK (by k_asm) (k871 _)); (case kd => first | exact Nat.le_of_ble_eq_true rfl | ktr_room); (case ku => first | exact Nat.le_of_ble_eq_true rfl | ktr_units)); intro h9 tk9 x9 u9 m9 l9 F9 N9) | (k_here; (with_reducible show wpAny _ _ (call (Value.ref 893) [Value.ref 872, Value.int _ _]) _ _ _); k_dflt (refine' pick_w 872 verbsS 3288 shortVerbs _ _ _ ?kl ?kB ?kF ?kX ?kN ?kT ?kk ?kd ?ku ?_; (case kF => k_asm); (case kN => k_asm); (case kB => k_asm); (case kX => k_asm); (case kT => k_asm); (case kk => first | exact rfl | assumption); (case kl => exact lstK (by k_asm) (k872 _)); (case kd => first | exact Nat.le_of_ble_eq_true rfl | ktr_room); (case ku => first | exact Nat.le_of_ble_eq_true rfl | ktr_units)); intro h9 tk9 x9 u9 m9 l9 F9 N9) | (k_here; (with_reducible show wpAny _ _ (binaryOp Operator.Add (Value.str _ _) (Value.str _ _)) _ _ _); k_dflt (refine SBL.add (hsz := ?hsz) ?_; (case hsz => first | with_reducible exact sz2 (by with_reducible assumption) (by with_reducible assumption) | with_reducible exact sz3 (by with_reducible assumption) (by with_reducible assumption) (by with_reducible assumption) | with_reducible exact sz4 (by with_reducible assumption) (by with_reducible assumption) (by with_reducible assumption) (by with_reducible assumption) | with_reducible exact szi (by with_reducible assumption) | (rw [PySem.sizeLine_eq]; (try simp only [Str.length_append, item_len]); omega))); intro _ _ _) | walk1)
    repeat (rename ((_ ≠ _) ∧ _) ∧ _ => hx9; have hx8 := hx9.1; have hx7 := hx9.2; clear hx9)
    repeat (rename (_ ≠ _) ∧ _ => hx9; have hx8 := hx9.1; have hx7 := hx9.2; clear hx9)
    repeat (rename (_ < _) ∧ _ => hx9; have hx8 := hx9.1; have hx7 := hx9.2; clear hx9)
    iterate 65 (first | (k_here; (with_reducible show wpAny _ _ (call (Value.ref 893) [Value.ref 868, Value.int _ _]) _ _ _); k_dflt (refine' pick_w 868 casesS 3160 shortCases _ _ _ ?kl ?kB ?kF ?kX ?kN ?kT ?kk ?kd ?ku ?_; (case kF => k_asm); (case kN => k_asm); (case kB => k_asm); (case kX => k_asm); (case kT => k_asm); (case kk => first | exact rfl | assumption); (case kl => exact lstK (by k_asm) (k868 _)); (case kd => first | exact Nat.le_of_ble_eq_true rfl | ktr_room); (case ku => first | exact Nat.le_of_ble_eq_true rfl | ktr_units)); intro h9 tk9 x9 u9 m9 l9 F9 N9) | (k_here; (with_reducible show wpAny _ _ (call (Value.ref 893) [Value.ref 869, Value.int _ _]) _ _ _); k_dflt (refine' pick_w 869 pluralsS 3218 shortPlurals _ _ _ ?kl ?kB ?kF ?kX ?kN ?kT ?kk ?kd ?ku ?_; (case kF => k_asm); (case kN => k_asm); (case kB => k_asm); (case kX => k_asm); (case kT => k_asm); (case kk => first | exact rfl | assumption); (case kl => exact lstK (by k_asm) (k869 _)); (case kd => first | exact Nat.le_of_ble_eq_true rfl | ktr_room); (case ku => first | exact Nat.le_of_ble_eq_true rfl | ktr_units)); intro h9 tk9 x9 u9 m9 l9 F9 N9) | (k_here; (with_reducible show wpAny _ _ (call (Value.ref 893) [Value.ref 870, Value.int _ _]) _ _ _); k_dflt (refine' pick_w 870 nounsS 3228 shortNouns _ _ _ ?kl ?kB ?kF ?kX ?kN ?kT ?kk ?kd ?ku ?_; (case kF => k_asm); (case kN => k_asm); (case kB => k_asm); (case kX => k_asm); (case kT => k_asm); (case kk => first | exact rfl | assumption); (case kl => exact lstK (by k_asm) (k870 _)); (case kd => first | exact Nat.le_of_ble_eq_true rfl | ktr_room); (case ku => first | exact Nat.le_of_ble_eq_true rfl | ktr_units)); intro h9 tk9 x9 u9 m9 l9 F9 N9) | (k_here; (with_reducible show wpAny _ _ (call (Value.ref 893) [Value.ref 871, Value.int _ _]) _ _ _); k_dflt (refine' pick_w 871 adjectivesS 3266 shortAdjectives _ _ _ ?kl ?kB ?kF ?kX ?kN ?kT ?kk ?kd ?ku ?_; (case kF => k_asm); (case kN => k_asm); (case kB => k_asm); (case kX => k_asm); (case kT => k_asm); (case kk => first | exact rfl | assumption); (case kl => exact lstK (by k_asm) (k871 _)); (case kd => first | exact Nat.le_of_ble_eq_true rfl | ktr_room); (case ku => first | exact Nat.le_of_ble_eq_true rfl | ktr_units)); intro h9 tk9 x9 u9 m9 l9 F9 N9) | (k_here; (with_reducible show wpAny _ _ (call (Value.ref 893) [Value.ref 872, Value.int _ _]) _ _ _); k_dflt (refine' pick_w 872 verbsS 3288 shortVerbs _ _ _ ?kl ?kB ?kF ?kX ?kN ?kT ?kk ?kd ?ku ?_; (case kF => k_asm); (case kN => k_asm); (case kB => k_asm); (case kX => k_asm); (case kT => k_asm); (case kk => first | exact rfl | assumption); (case kl => exact lstK (by k_asm) (k872 _)); (case kd => first | exact Nat.le_of_ble_eq_true rfl | ktr_room); (case ku => first | exact Nat.le_of_ble_eq_true rfl | ktr_units)); intro h9 tk9 x9 u9 m9 l9 F9 N9) | (k_here; (with_reducible show wpAny _ _ (binaryOp Operator.Add (Value.str _ _) (Value.str _ _)) _ _ _); k_dflt (refine SBL.add (hsz := ?hsz) ?_; (case hsz => first | with_reducible exact sz2 (by with_reducible assumption) (by with_reducible assumption) | with_reducible exact sz3 (by with_reducible assumption) (by with_reducible assumption) (by with_reducible assumption) | with_reducible exact sz4 (by with_reducible assumption) (by with_reducible assumption) (by with_reducible assumption) (by with_reducible assumption) | with_reducible exact szi (by with_reducible assumption) | (rw [PySem.sizeLine_eq]; (try simp only [Str.length_append, item_len]); omega))); intro _ _ _) | walk1)
    have hs3 := hot.noun (by with_reducible assumption) (by with_reducible assumption) (by with_reducible assumption)
    rename News _ _ _ _ => N5
    generalize hz3 : ot ++ _ ++ _ ++ _ = z3 at hs3 N5 ⊢
    have hl3 : z3.length ≤ 100 := by
      rw [← hz3]
      exact len4 hol (by with_reducible assumption) (by with_reducible assumption) (by with_reducible assumption)
    clear hz3
    iterate 68 (first | (k_here; (with_reducible show wpAny _ _ (call (Value.ref 893) [Value.ref 868, Value.int _ _]) _ _ _); k_dflt (refine' pick_w 868 casesS 3160 shortCases _ _ _ ?kl ?kB ?kF ?kX ?kN ?kT ?kk ?kd ?ku ?_; (case kF => k_asm); (case kN => k_asm); (case kB => k_asm); (case kX => k_asm); (case kT => k_asm); (case kk => first | exact rfl | assumption); (case kl => exact lstK (by k_asm) (k868 _)); (case kd => first | exact Nat.le_of_ble_eq_true rfl | ktr_room); (case ku => first | exact Nat.le_of_ble_eq_true rfl | ktr_units)); intro h9 tk9 x9 u9 m9 l9 F9 N9) | (k_here; (with_reducible show wpAny _ _ (call (Value.ref 893) [Value.ref 869, Value.int _ _]) _ _ _); k_dflt (refine' pick_w 869 pluralsS 3218 shortPlurals _ _ _ ?kl ?kB ?kF ?kX ?kN ?kT ?kk ?kd ?ku ?_; (case kF => k_asm); (case kN => k_asm); (case kB => k_asm); (case kX => k_asm); (case kT => k_asm); (case kk => first | exact rfl | assumption); (case kl => exact lstK (by k_asm) (k869 _)); (case kd => first | exact Nat.le_of_ble_eq_true rfl | ktr_room); (case ku => first | exact Nat.le_of_ble_eq_true rfl | ktr_units)); intro h9 tk9 x9 u9 m9 l9 F9 N9) | (k_here; (with_reducible show wpAny _ _ (call (Value.ref 893) [Value.ref 870, Value.int _ _]) _ _ _); k_dflt (refine' pick_w 870 nounsS 3228 shortNouns _ _ _ ?kl ?kB ?kF ?kX ?kN ?kT ?kk ?kd ?ku ?_; (case kF => k_asm); (case kN => k_asm); (case kB => k_asm); (case kX => k_asm); (case kT => k_asm); (case kk => first | exact rfl | assumption); (case kl => exact lstK (by k_asm) (k870 _)); (case kd => first | exact Nat.le_of_ble_eq_true rfl | ktr_room); (case ku => first | exact Nat.le_of_ble_eq_true rfl | ktr_units)); intro h9 tk9 x9 u9 m9 l9 F9 N9) | (k_here; (with_reducible show wpAny _ _ (call (Value.ref 893) [Value.ref 871, Value.int _ _]) _ _ _); k_dflt (refine' pick_w 871 adjectivesS 3266 shortAdjectives _ _ _ ?kl ?kB ?kF ?kX ?kN ?kT ?kk ?kd ?ku ?_; (case kF => k_asm); (case kN => k_asm); (case kB => k_asm); (case kX => k_asm); (case kT => k_asm); (case kk => first | exact rfl | assumption); (case kl => exact lstK (by k_asm) (k871 _)); (case kd => first | exact Nat.le_of_ble_eq_true rfl | ktr_room); (case ku => first | exact Nat.le_of_ble_eq_true rfl | ktr_units)); intro h9 tk9 x9 u9 m9 l9 F9 N9) | (k_here; (with_reducible show wpAny _ _ (call (Value.ref 893) [Value.ref 872, Value.int _ _]) _ _ _); k_dflt (refine' pick_w 872 verbsS 3288 shortVerbs _ _ _ ?kl ?kB ?kF ?kX ?kN ?kT ?kk ?kd ?ku ?_; (case kF => k_asm); (case kN => k_asm); (case kB => k_asm); (case kX => k_asm); (case kT => k_asm); (case kk => first | exact rfl | assumption); (case kl => exact lstK (by k_asm) (k872 _)); (case kd => first | exact Nat.le_of_ble_eq_true rfl | ktr_room); (case ku => first | exact Nat.le_of_ble_eq_true rfl | ktr_units)); intro h9 tk9 x9 u9 m9 l9 F9 N9) | (k_here; (with_reducible show wpAny _ _ (binaryOp Operator.Add (Value.str _ _) (Value.str _ _)) _ _ _); k_dflt (refine SBL.add (hsz := ?hsz) ?_; (case hsz => first | with_reducible exact sz2 (by with_reducible assumption) (by with_reducible assumption) | with_reducible exact sz3 (by with_reducible assumption) (by with_reducible assumption) (by with_reducible assumption) | with_reducible exact sz4 (by with_reducible assumption) (by with_reducible assumption) (by with_reducible assumption) (by with_reducible assumption) | with_reducible exact szi (by with_reducible assumption) | (rw [PySem.sizeLine_eq]; (try simp only [Str.length_append, item_len]); omega))); intro _ _ _) | walk1)
    have hs4 := hot.noun (by with_reducible assumption) (by with_reducible assumption) (by with_reducible assumption)
    rename News _ _ _ _ => N5
    generalize hz4 : ot ++ _ ++ _ ++ _ = z4 at hs4 N5 ⊢
    have hl4 : z4.length ≤ 100 := by
      rw [← hz4]
      exact len4 hol (by with_reducible assumption) (by with_reducible assumption) (by with_reducible assumption)
    clear hz4
    iterate 48 (first | (k_here; (with_reducible show wpAny _ _ (call (Value.ref 893) [Value.ref 868, Value.int _ _]) _ _ _); k_dflt (refine' pick_w 868 casesS 3160 shortCases _ _ _ ?kl ?kB ?kF ?kX ?kN ?kT ?kk ?kd ?ku ?_; (case kF => k_asm); (case kN => k_asm); (case kB => k_asm); (case kX => k_asm); (case kT => k_asm); (case kk => first | exact rfl | assumption); (case kl => exact lstK (by k_asm) (k868 _)); (case kd => first | exact Nat.le_of_ble_eq_true rfl | ktr_room); (case ku => first | exact Nat.le_of_ble_eq_true rfl | ktr_units)); intro h9 tk9 x9 u9 m9 l9 F9 N9) | (k_here; (with_reducible show wpAny _ _ (call (Value.ref 893) [Value.ref 869, Value.int _ _]) _ _ _); k_dflt (refine' pick_w 869 pluralsS 3218 shortPlurals _ _ _ ?kl ?kB ?kF ?kX ?kN ?kT ?kk ?kd ?ku ?_; (case kF => k_asm); (case kN => k_asm); (case kB => k_asm); (case kX => k_asm); (case kT => k_asm); (case kk => first | exact rfl | assumption); (case kl => exact lstK (by k_asm) (k869 _)); (case kd => first | exact Nat.le_of_ble_eq_true rfl | ktr_room); (case ku => first | exact Nat.le_of_ble_eq_true rfl | ktr_units)); intro h9 tk9 x9 u9 m9 l9 F9 N9) | (k_here; (with_reducible show wpAny _ _ (call (Value.ref 893) [Value.ref 870, Value.int _ _]) _ _ _); k_dflt (refine' pick_w 870 nounsS 3228 shortNouns _ _ _ ?kl ?kB ?kF ?kX ?kN ?kT ?kk ?kd ?ku ?_; (case kF => k_asm); (case kN => k_asm); (case kB => k_asm); (case kX => k_asm); (case kT => k_asm); (case kk => first | exact rfl | assumption); (case kl => exact lstK (by k_asm) (k870 _)); (case kd => first | exact Nat.le_of_ble_eq_true rfl | ktr_room); (case ku => first | exact Nat.le_of_ble_eq_true rfl | ktr_units)); intro h9 tk9 x9 u9 m9 l9 F9 N9) | (k_here; (with_reducible show wpAny _ _ (call (Value.ref 893) [Value.ref 871, Value.int _ _]) _ _ _); k_dflt (refine' pick_w 871 adjectivesS 3266 shortAdjectives _ _ _ ?kl ?kB ?kF ?kX ?kN ?kT ?kk ?kd ?ku ?_; (case kF => k_asm); (case kN => k_asm); (case kB => k_asm); (case kX => k_asm); (case kT => k_asm); (case kk => first | exact rfl | assumption); (case kl => exact lstK (by k_asm) (k871 _)); (case kd => first | exact Nat.le_of_ble_eq_true rfl | ktr_room); (case ku => first | exact Nat.le_of_ble_eq_true rfl | ktr_units)); intro h9 tk9 x9 u9 m9 l9 F9 N9) | (k_here; (with_reducible show wpAny _ _ (call (Value.ref 893) [Value.ref 872, Value.int _ _]) _ _ _); k_dflt (refine' pick_w 872 verbsS 3288 shortVerbs _ _ _ ?kl ?kB ?kF ?kX ?kN ?kT ?kk ?kd ?ku ?_; (case kF => k_asm); (case kN => k_asm); (case kB => k_asm); (case kX => k_asm); (case kT => k_asm); (case kk => first | exact rfl | assumption); (case kl => exact lstK (by k_asm) (k872 _)); (case kd => first | exact Nat.le_of_ble_eq_true rfl | ktr_room); (case ku => first | exact Nat.le_of_ble_eq_true rfl | ktr_units)); intro h9 tk9 x9 u9 m9 l9 F9 N9) | (k_here; (with_reducible show wpAny _ _ (binaryOp Operator.Add (Value.str _ _) (Value.str _ _)) _ _ _); k_dflt (refine SBL.add (hsz := ?hsz) ?_; (case hsz => first | with_reducible exact sz2 (by with_reducible assumption) (by with_reducible assumption) | with_reducible exact sz3 (by with_reducible assumption) (by with_reducible assumption) (by with_reducible assumption) | with_reducible exact sz4 (by with_reducible assumption) (by with_reducible assumption) (by with_reducible assumption) (by with_reducible assumption) | with_reducible exact szi (by with_reducible assumption) | (rw [PySem.sizeLine_eq]; (try simp only [Str.length_append, item_len]); omega))); intro _ _ _) | walk1)
    have hs5 := hrt.verb (by with_reducible assumption) (by with_reducible assumption)
    rename News _ _ _ _ => N5
    generalize hz5 : rt ++ _ ++ _ = z5 at hs5 N5 ⊢
    have hl5 : z5.length ≤ 100 := by
      rw [← hz5]
      exact len3 hrl (by with_reducible assumption) (by with_reducible assumption)
    clear hz5
    iterate 5 (first | (k_here; (with_reducible show wpAny _ _ (call (Value.ref 893) [Value.ref 868, Value.int _ _]) _ _ _); k_dflt (refine' pick_w 868 casesS 3160 shortCases _ _ _ ?kl ?kB ?kF ?kX ?kN ?kT ?kk ?kd ?ku ?_; (case kF => k_asm); (case kN => k_asm); (case kB => k_asm); (case kX => k_asm); (case kT => k_asm); (case kk => first | exact rfl | assumption); (case kl => exact lstK (by k_asm) (k868 _)); (case kd => first | exact Nat.le_of_ble_eq_true rfl | ktr_room); (case ku => first | exact Nat.le_of_ble_eq_true rfl | ktr_units)); intro h9 tk9 x9 u9 m9 l9 F9 N9) | (k_here; (with_reducible show wpAny _ _ (call (Value.ref 893) [Value.ref 869, Value.int _ _]) _ _ _); k_dflt (refine' pick_w 869 pluralsS 3218 shortPlurals _ _ _ ?kl ?kB ?kF ?kX ?kN ?kT ?kk ?kd ?ku ?_; (case kF => k_asm); (case kN => k_asm); (case kB => k_asm); (case kX => k_asm); (case kT => k_asm); (case kk => first | exact rfl | assumption); (case kl => exact lstK (by k_asm) (k869 _)); (case kd => first | exact Nat.le_of_ble_eq_true rfl | ktr_room); (case ku => first | exact Nat.le_of_ble_eq_true rfl | ktr_units)); intro h9 tk9 x9 u9 m9 l9 F9 N9) | (k_here; (with_reducible show wpAny _ _ (call (Value.ref 893) [Value.ref 870, Value.int _ _]) _ _ _); k_dflt (refine' pick_w 870 nounsS 3228 shortNouns _ _ _ ?kl ?kB ?kF ?kX ?kN ?kT ?kk ?kd ?ku ?_; (case kF => k_asm); (case kN => k_asm); (case kB => k_asm); (case kX => k_asm); (case kT => k_asm); (case kk => first | exact rfl | assumption); (case kl => exact lstK (by k_asm) (k870 _)); (case kd => first | exact Nat.le_of_ble_eq_true rfl | ktr_room); (case ku => first | exact Nat.le_of_ble_eq_true rfl | ktr_units)); intro h9 tk9 x9 u9 m9 l9 F9 N9) | (k_here; (with_reducible show wpAny _ _ (call (Value.ref 893) [Value.ref 871, Value.int _ _]) _ _ _); k_dflt (refine' pick_w 871 adjectivesS 3266 shortAdjectives _ _ _ ?kl ?kB ?kF ?kX ?kN ?kT ?kk ?kd ?ku ?_; (case kF => k_asm); (case kN => k_asm); (case kB => k_asm); (case kX => k_asm); (case kT => k_asm); (case kk => first | exact rfl | assumption); (case kl => exact lstK (by k_asm) (k871 _)); (case kd => first | exact Nat.le_of_ble_eq_true rfl | ktr_room); (case ku => first | exact Nat.le_of_ble_eq_true rfl | ktr_units)); intro h9 tk9 x9 u9 m9 l9 F9 N9) | (k_here; (with_reducible show wpAny _ _ (call (Value.ref 893) [Value.ref 872, Value.int _ _]) _ _ _); k_dflt (refine' pick_w 872 verbsS 3288 shortVerbs _ _ _ ?kl ?kB ?kF ?kX ?kN ?kT ?kk ?kd ?ku ?_; (case kF => k_asm); (case kN => k_asm); (case kB => k_asm); (case kX => k_asm); (case kT => k_asm); (case kk => first | exact rfl | assumption); (case kl => exact lstK (by k_asm) (k872 _)); (case kd => first | exact Nat.le_of_ble_eq_true rfl | ktr_room); (case ku => first | exact Nat.le_of_ble_eq_true rfl | ktr_units)); intro h9 tk9 x9 u9 m9 l9 F9 N9) | (k_here; (with_reducible show wpAny _ _ (binaryOp Operator.Add (Value.str _ _) (Value.str _ _)) _ _ _); k_dflt (refine SBL.add (hsz := ?hsz) ?_; (case hsz => first | with_reducible exact sz2 (by with_reducible assumption) (by with_reducible assumption) | with_reducible exact sz3 (by with_reducible assumption) (by with_reducible assumption) (by with_reducible assumption) | with_reducible exact sz4 (by with_reducible assumption) (by with_reducible assumption) (by with_reducible assumption) (by with_reducible assumption) | with_reducible exact szi (by with_reducible assumption) | (rw [PySem.sizeLine_eq]; (try simp only [Str.length_append, item_len]); omega))); intro _ _ _) | walk1)
    k_here
    k_dflt (refine' nameX_K ?zF ?zX ?zT ?ze ?_ ?za ?zb; (case zF => k_asm); (case zX => k_asm); (case zT => k_asm); (case za => rfl); (case zb => rfl); (case ze => k_is); k_whole)
    refine' callWith_K0 ?zk1 ?zk2 ?_
    case zk1 => exact KX.keeps (Fr.keep (by k_asm))
    case zk2 => k_is
    refine' make _ ?kB ?kF ?kX ?kV ?kN ?kT ?kk ?kd ?ku ?_
    case kF => k_asm
    case kN => k_asm
    case kB => k_asm
    case kX => k_asm
    case kV => k_asm
    case kT => k_asm
    case kk => first | exact rfl | assumption
    case kd => ktr_room
    case ku => ktr_units
    intro h9 tk9 x9 dx9 cu9 cc9 li9 lb9 br9 ke9 t91 t92 t93 t94 t95 t96 F9 N9 hoff9 hx9
    dsimp only [self6, ent] at N9
    iterate 1 walk1
    dsimp only
    k_dflt (refine' callWith_K ?zk1 ?zk2 ?_; (case zk1 => exact KX); (case zk2 => k_is); k_whole)
    iterate 3 walk1
    refine ⟨KX.keeps (Fr.keep (by k_asm)), ?_⟩
    refine' words _ _ _ _ _ (target rt ot) _ _ _ _ _ _ _ _ _ _ _ _ _ ?hI ?hsz ?hl ?hTT ?koff ?kx ?kB ?kF ?kX ?kV ?kN ?kT ?kk ?kd ?ku ?_
    case kF => k_asm
    case kN => exact N9
    case kB => k_asm
    case kX => k_asm
    case kV => k_asm
    case kT => k_asm
    case kk => first | exact rfl | assumption
    case kd => ktr_room
    case ku => ktr_units
    case hTT => exact KT
    case koff => exact hoff9
    case kx => exact hx9
    case hl => k_mem
    case hsz => exact Nat.le_of_ble_eq_true rfl
    case hI => exact forms_ok hrt.self hs0 hs1 hs2 hs3 hs4 hs5 hrl hl0 hl1 hl2 hl3 hl4 hl5
    intro h9 tk9 D9 ys9' F9 N9' hl9' hy9'
    obtain ⟨w0, w1, w2, w3, w4, w5, w6, hys9⟩ := ys_seven hl9' hy9'
    subst hys9
    clear hl9' hy9' N9 hoff9 hx9
    iterate 17 walk1
    refine' eq_seven (News.isList ?zf ?zl) (News.isList ?zf2 ?zl2) ?zu ?_
    case zf => k_asm
    case zl => k_mem
    case zf2 => k_asm
    case zl2 => k_mem
    case zu => ke_room
    k_steps
    
end Mine
end
theorem PySem.Challenge.cw_ak0021_01_holds : PySem.Challenge.rw_ak0021_01.Holds :=
  Mine.head Mine.hcW
