import PyProof.Rows.All
import Wide.All
import OpenK.AllK
import Wide.FinOn
import Lean
import PySem.Challenge.RW_pm0015_02
open PySem PySem.W PyProof.Rows PySem.Calls PySem.Spec PySem.Builtin.Str
set_option Elab.async false
set_option maxRecDepth 100000
set_option compiler.extract_closed false
namespace Mine
-- part fw
theorem snoc_at {α : Type _} {l : List α} {x v : α} {i : Nat} (h : (l ++ [x])[i]? = some v) : (i < l.length ∧ l[i]? = some v) ∨ (i = l.length ∧ v = x) := by
  rcases Nat.lt_trichotomy i l.length with hl | rfl | hl
  · exact .inl ⟨hl, by rwa [List.getElem?_append_left hl] at h⟩
  · exact .inr ⟨rfl, by rw [List.getElem?_concat_length] at h; exact (Option.some.inj h).symm⟩
  · rw [List.getElem?_eq_none (by rw [List.length_append]; exact hl)] at h; cases h

/-- the surroundings of a call, written out -/
noncomputable abbrev mA (dp un : Nat) (gd : Option (List Code)) (fr : List Env) : Around := { handled := none, depth := dp, frames := some fr, guards := gd, units := un }
noncomputable abbrev hid (h : Heap) (own : List (Addr × Obj)) : Heap := hideAll h (own.map (·.1))

/-- what a call leaves: from s to s', the ledger own turned into own' -/
structure Ret (s : Shared) (own : List (Addr × Obj)) (s' : Shared) (own' : List (Addr × Obj)) : Prop where
  same : s' = { s with heap := s'.heap, toks := s'.toks }
  keep : ∀ b o, s.heap.get? b = some o → b ∉ own.map (·.1) → s'.heap.get? b = some o
  at_ : ∀ p ∈ own', s'.heap.get? p.1 = some p.2
  from_ : ∀ p ∈ own', p.1 ∈ own.map (·.1) ∨ s.heap.get? p.1 = none

/-- what a raise leaves -/
inductive FlewB (base : Heap) (fr : List Env) (g : Heap) (err : Value → List Value → Prop) (errN : String → Prop) (v : Value) (h' : Heap) : Prop
  | S (e t : Addr) (cls : Value) (vs : List Value) (hv : v = .ref e) (R : RaisedS base g fr e cls t vs [] h') (h : err cls vs)
  | N (e : Addr) (X : String) (hv : v = .ref e) (R : RaisedSN base g fr e (.type X) [] h') (h : errN X)
structure Flew (base : Heap) (fr : List Env) (g : Heap) (err : Value → List Value → Prop) (errN : String → Prop) (s : Shared) (v : Value) (s' : Shared) : Prop where
  same : s' = { s with heap := s'.heap, toks := s'.toks }
  up : g.UpToSlots s'.heap
  how : FlewB base fr g err errN v s'.heap
noncomputable abbrev fsOf (fr : List Env) : List Addr := fr.filterMap (·.frame)

/-- a contract of a def -/
noncomputable def Ctr (prog : Program) (w : World) (K : Frag) (p : Program) (loose : List Str) (mean : ExcName → Option Value) (mg mb : Str → Option Value)
    (d u : Nat) (f : Addr) (args : List Value) (own : List (Addr × Obj)) (post : Value → List (Addr × Obj) → Prop) (err : Value → List Value → Prop) (errN : String → Prop) : Prop :=
  ∀ (dp un : Nat) (gd : Option (List Code)) (fr : List Env) (base : Heap) (s : Shared) (R : Result → Shared → Prop),
    Below (mA dp un gd fr) base fr (hid s.heap own) → K.In (hid s.heap own) → Top p loose mean mg mb (hid s.heap own) → KtsDicts (fsOf fr) (hid s.heap own) → dp + d < recursionLimit → un + u < cLine →
    (∀ q ∈ own, s.heap.get? q.1 = some q.2) →
    (∀ v s' own', Ret s own s' own' → post v own' → R (.ok (.ret v)) s') →
    (∀ v s', Flew base fr (hid s.heap own) err errN s v s' → R (.error v) s') →
    codeAny (model prog w) (mA dp un gd fr) (.call (.ref f) ⟨args, []⟩) R s

/-- the end of a def's body -/
inductive Lv (s : Shared) (g : Heap) (post : Value → List (Addr × Obj) → Prop) (v : Value) (s' : Shared) : Prop
  | mk (L' : Addr) (m' : Str → Option Value) (own' : List (Addr × Obj)) (e : s' = { s with heap := s'.heap, toks := s'.toks }) (F : Fr g L' s'.heap m') (N : News g L' s'.heap own') (p : post v own')
theorem hid_none {h : Heap} {own : List (Addr × Obj)} {b : Addr} (e : (hid h own).get? b = none) : b ∈ own.map (·.1) ∨ h.get? b = none := by
  cases q : h.get? b with
  | none => exact .inr rfl
  | some o =>
    left
    apply Classical.byContradiction
    intro hn
    have := hideAll_get (own.map (·.1)) q hn
    rw [this] at e; cases e

theorem Lv.ret {s : Shared} {own : List (Addr × Obj)} {post : Value → List (Addr × Obj) → Prop} {v : Value} {s' : Shared} (h : Lv s (hid s.heap own) post v s') : ∃ own', Ret s own s' own' ∧ post v own' := by
  obtain ⟨L', m', own', e, F, N, hp⟩ := h
  exact ⟨own', ⟨e, fun b o q hn => F.keep b o (hideAll_get _ q hn), fun p hp => (N p hp).1, fun p hp => hid_none (N p hp).2.2⟩, hp⟩
theorem news_sub {h₀ h : Heap} {L : Addr} {N N' : List (Addr × Obj)} (hN : News h₀ L h N') (hs : ∀ q ∈ N, q ∈ N') : News h₀ L h N := fun q hq => hN q (hs q hq)
theorem news_pick {h₀ h : Heap} {L : Addr} {N M : List (Addr × Obj)} (hN : News h₀ L h N) (is : List Nat) (e : M = is.filterMap (fun i => N[i]?)) : News h₀ L h M := fun q hq => by
  rw [e] at hq
  obtain ⟨i, -, hi⟩ := List.mem_filterMap.mp hq
  exact hN q (List.mem_of_getElem? hi)
/-- some of the ledger's objects, and all behind the k-th -/
theorem news_pickT {h₀ h : Heap} {L : Addr} {N M : List (Addr × Obj)} (hN : News h₀ L h N) (is : List Nat) (k : Nat) (e : M = is.filterMap (fun i => N[i]?) ++ N.drop k) : News h₀ L h M := fun q hq => by
  rw [e] at hq
  rcases List.mem_append.mp hq with hq | hq
  · obtain ⟨i, -, hi⟩ := List.mem_filterMap.mp hq
    exact hN q (List.mem_of_getElem? hi)
  · exact hN q (List.mem_of_mem_drop hq)
/-- a name is stored: the new frame gets a name of its own -/
theorem storeX_Lm {M : Model} {A : Around} {Q : Unit → Shared → Prop} {E : Value → Shared → Prop} {s : Shared} {h₀ : Heap} {L : Addr} {m : Str → Option Value} {news : List (Addr × Obj)} {cn : Str} {cs : Scope} {a : Addr} {ccd : Value} {cl : List (Str × Addr)} {x : Str} {v : Value} (F : Fr h₀ L s.heap m) (N : News h₀ L s.heap news)
    (h : let m' : Str → Option Value := fun y => if y = x then some v else m y; ∀ h', Fr h₀ L h' m' → News h₀ L h' news → Q () { s with heap := h', toks := s.toks + 1 })
    (hk : cs.kind = .function := by rfl) (hx : (PySem.W.envX cn cs L a ccd cl).kindOf x = some .local := by rfl) : wpAny M A (storeName (PySem.W.envX cn cs L a ccd cl) x v) Q E s :=
  PySem.W.storeX_L F N h hk hx
theorem lt_up {d n R : Nat} (k : Nat) (h : d + n < R) (hk : Nat.ble k n = true) : d + k < R := Nat.lt_of_le_of_lt (Nat.add_le_add_left (Nat.le_of_ble_eq_true hk) d) h
theorem raisedS_sub {base G : Heap} {l : List Env} {e t : Addr} {cls : Value} {vs : List Value} {news : List (Addr × Obj)} {h : Heap} (R : RaisedS base G l e cls t vs news h) : RaisedS base G l e cls t vs [] h := by
  obtain ⟨⟨B, hB, hBG, _, hfl, hnew⟩, htup⟩ := R
  exact ⟨⟨B, hB, hBG, (fun _ h => nomatch h), hfl, hnew⟩, htup⟩
theorem raisedSN_sub {base G : Heap} {l : List Env} {e : Addr} {cls : Value} {news : List (Addr × Obj)} {h : Heap} (R : RaisedSN base G l e cls news h) : RaisedSN base G l e cls [] h := by
  obtain ⟨B, a0, hB, hBG, _, hfl⟩ := R
  exact ⟨B, a0, hB, hBG, (fun _ h => nomatch h), hfl⟩
theorem flew_S {base : Heap} {fr : List Env} {g : Heap} {err : Value → List Value → Prop} {errN : String → Prop} {s : Shared} {h : Heap} {tk : Nat} {e t : Addr} {cls : Value} {vs : List Value} {news : List (Addr × Obj)}
    (R : RaisedS base g fr e cls t vs news h) (U : g.UpToSlots h) (he : err cls vs) : Flew base fr g err errN s (.ref e) { s with heap := h, toks := tk } :=
  ⟨rfl, U, .S e t cls vs rfl (raisedS_sub R) he⟩
theorem flew_N {base : Heap} {fr : List Env} {g : Heap} {err : Value → List Value → Prop} {errN : String → Prop} {s : Shared} {h : Heap} {tk : Nat} {e : Addr} {X : String} {news : List (Addr × Obj)}
    (R : RaisedSN base g fr e (.type X) news h) (U : g.UpToSlots h) (he : errN X) : Flew base fr g err errN s (.ref e) { s with heap := h, toks := tk } :=
  ⟨rfl, U, .N e X rfl (raisedSN_sub R) he⟩
noncomputable abbrev noErr : Value → List Value → Prop := fun _ _ => False
noncomputable abbrev noErrN : String → Prop := fun _ => False
theorem flew_no {base : Heap} {fr : List Env} {g : Heap} {s : Shared} {v : Value} {s' : Shared} (h : Flew base fr g noErr noErrN s v s') : False := by
  obtain ⟨_, _, h⟩ := h
  rcases h with ⟨_, _, _, _, _, _, h⟩ | ⟨_, _, _, _, h⟩ <;> exact h

section
variable {prog : Program} {w : World} {K : Frag} {p : Program} {loose : List Str} {mean : ExcName → Option Value} {mg mb : Str → Option Value} {d u : Nat} {f : Addr} {args : List Value} {own : List (Addr × Obj)}
  {post : Value → List (Addr × Obj) → Prop} {err : Value → List Value → Prop} {errN : String → Prop}

/-- a plain def is entered -/
theorem ctr_enter {name qual : Str} {params : Arguments} {body : List Stmt} {scope : Scope} {dV kV doc pm cdv ct oc : Value} {an od : Option Addr} {osl : Array (Option Value)} {binds : List (Str × Value)}
    (ho : K.lookup f = some ⟨oc, od, .func (fnOf name qual params body scope dV kV doc pm an cdv ct), osl⟩) (hcd : codeIn K cdv qual = true)
    (hbind : ∀ s, BindsTo s (fnOf name qual params body scope dV kV doc pm an cdv ct) ⟨args, []⟩ binds) (hloc : ∀ y ∈ binds, scope.names.lookup y.1 = some .local)
    (h : ∀ (dp un : Nat) (gd : Option (List Code)) (fr : List Env) (base g : Heap) (L : Addr) (h₁ : Heap) (s : Shared), dp + d < recursionLimit → un + u < cLine →
      g = hid s.heap own → Below (mA dp un gd fr) base fr g → Fr g L h₁ (fun y => binds.reverse.lookup y) → News g L h₁ own → K.In g → Top p loose mean mg mb g → (∀ q ∈ own, q.1 < L) → KtsDicts (fsOf fr) g →
      wpAny (model prog w) ((mA dp un gd fr).deeper (envOf qual scope L f cdv)) (execs body (envOf qual scope L f cdv))
        (fun fl s' => Lv s g post (match fl with | .ret v => v | _ => .none) s')
        (fun e s' => wpAny (model prog w) ((mA dp un gd fr).deeper (envOf qual scope L f cdv)) (leaving (envOf qual scope L f cdv) e) (fun _ s'' => Flew base fr g err errN s e s'') (fun e' s'' => Flew base fr g err errN s e' s'') s')
        { s with heap := h₁, toks := s.toks + binds.length })
    (hco : scope.isCoroutine = false) (hgen : scope.isGenerator = false) (hk : scope.kind = .function)
    (hcell : ∀ x ∈ scope.names, x.2 ≠ .cell) (hroom : 0 < d := by decide) : Ctr prog w K p loose mean mg mb d u f args own post err errN := by
  intro dp un gd fr base s R BG X T DG hd hu hown hret herr
  have hX : K.In s.heap := fun a o e => of_hideAll _ (X a o e)
  have hl : s.heap.NoLimit := T.nolimit.keeps fun b o e => of_hideAll _ e
  refine codeAny_call_def (fd := fnOf name qual params body scope dV kV doc pm an cdv ct) (body := body) (binds := binds) (Nat.lt_of_le_of_lt (Nat.le_add_right dp d) hd) (hX _ _ ho) rfl hl (codeRec_of hX hcd) rfl (hbind s) hcell hloc (fun h₁ hns hk₁ => ?_) hco hgen hk
  refine wpAny_mono (h dp un gd fr base _ s.heap.objs.size h₁ s hd hu rfl BG ⟨hns, fun b o e => hk₁ b o (of_hideAll _ e), Nat.le_of_eq (hideAll_size _ _)⟩
    (fun q hq => ⟨hk₁ _ _ (hown q hq), Nat.ne_of_lt (Heap.lt_size (hown q hq)), hideAll_none _ (List.mem_map_of_mem hq)⟩) X T (fun q hq => Heap.lt_size (hown q hq)) DG) (fun fl s' hl => ?_) fun e s' y => ?_
  · obtain ⟨own', hr, hp⟩ := hl.ret
    exact hret _ _ _ hr hp
  · exact wpAny_mono y (fun _ s'' hl => herr _ _ hl) fun e' s'' hl => herr _ _ hl

/-- what a caller keeps over a call -/
theorem ret_back {h₀ : Heap} {L : Addr} {m : Str → Option Value} {s s' : Shared} {rest own' : List (Addr × Obj)} (F : Fr h₀ L s.heap m) (N : News h₀ L s.heap (own ++ rest)) (hap : ∀ q ∈ rest, q.1 ∉ own.map (·.1)) (r : Ret s own s' own') :
    Fr h₀ L s'.heap m ∧ News h₀ L s'.heap (own' ++ rest) ∧ ∀ a ∈ own', a.1 ∈ own.map (·.1) ∨ ∀ q ∈ rest, a.1 ≠ q.1 := by
  have No : News h₀ L s.heap own := fun q hq => N q (List.mem_append_left _ hq)
  have nm : ∀ b o, h₀.get? b = some o → b ∉ own.map (·.1) := fun b o e q => by
    obtain ⟨q', hq, rfl⟩ := List.mem_map.mp q
    rw [(No q' hq).2.2] at e; cases e
  have nL : L ∉ own.map (·.1) := fun q => by
    obtain ⟨q', hq, e⟩ := List.mem_map.mp q
    exact (No q' hq).2.1 e
  obtain ⟨oL, es, ep, hL, hLd, hLk, hLf⟩ := F.ns
  refine ⟨⟨⟨oL, es, ep, r.keep L oL hL nL, hLd, hLk, hLf⟩, fun b o e => r.keep b o (F.keep b o e) (nm b o e), F.above⟩, fun q hq => ?_, fun a ha => ?_⟩
  · rcases List.mem_append.mp hq with hq | hq
    · refine ⟨r.at_ q hq, ?_, ?_⟩
      · rcases r.from_ q hq with h1 | h1
        · exact fun e => nL (e ▸ h1)
        · intro e; rw [e, hL] at h1; cases h1
      · rcases r.from_ q hq with h1 | h1
        · obtain ⟨q', hq', e⟩ := List.mem_map.mp h1
          have := (No q' hq').2.2
          rw [e] at this; exact this
        · cases q2 : h₀.get? q.1 with
          | none => rfl
          | some o => rw [F.keep _ _ q2] at h1; cases h1
    · have z := N q (List.mem_append_right _ hq)
      exact ⟨r.keep _ _ z.1 (hap q hq), z.2⟩
  · rcases r.from_ a ha with h1 | h1
    · exact .inl h1
    · refine .inr fun q hq e => ?_
      rw [e, (N q (List.mem_append_right _ hq)).1] at h1; cases h1
theorem dicts_push {h₀ h : Heap} {L : Addr} {m : Str → Option Value} {own : List (Addr × Obj)} {outer : List Env} {env : Env} (F : Fr h₀ L h m) (No : News h₀ L h own) (D : KtsDicts (fsOf outer) h₀) (hf : env.frame = some L) (st : h₀.StaysIn (hid h own)) : KtsDicts (fsOf (env :: outer)) (hid h own) := by
  intro b hb
  obtain ⟨env', he, hf'⟩ := List.mem_filterMap.mp hb
  rcases List.mem_cons.mp he with rfl | he
  · obtain rfl : L = b := Option.some.inj (hf.symm.trans hf')
    obtain ⟨oL, es, ep, hL, hLd, _⟩ := F.ns
    refine ⟨oL, es, ep, hideAll_get _ hL fun q => ?_, hLd⟩
    obtain ⟨q', hq, e⟩ := List.mem_map.mp q
    exact (No q' hq).2.1 e
  · obtain ⟨o, es, n, ho, hd⟩ := D b (List.mem_filterMap.mpr ⟨env', he, hf'⟩)
    exact ⟨o, es, n, st _ _ ho, hd⟩

/-- a contract is used at a call; a raise goes on -/
theorem ctr_useE (C : Ctr prog w K p loose mean mg mb d u f args own post err errN) {A₀ : Around} {base h₀ : Heap} {outer : List Env} {env : Env} {L : Addr} {m : Str → Option Value} {s : Shared} {rest : List (Addr × Obj)} {dp un : Nat} {gd : Option (List Code)}
    {Q E : Value → Shared → Prop}
    (B : Below A₀ base outer h₀) (F : Fr h₀ L s.heap m) (X : K.In h₀) (T : Top p loose mean mg mb h₀) (D : KtsDicts (fsOf outer) h₀) (N : News h₀ L s.heap (own ++ rest)) (hf : env.frame = some L) (hke : env.scope.kind = .function)
    (hd : dp + d < recursionLimit) (hu : un + u < cLine) (hap : ∀ q ∈ rest, q.1 ∉ own.map (·.1))
    (h : ∀ v own' h' tk', post v own' → Fr h₀ L h' m → News h₀ L h' (own' ++ rest) → (∀ a ∈ own', a.1 ∈ own.map (·.1) ∨ ∀ q ∈ rest, a.1 ≠ q.1) → Q v { s with heap := h', toks := tk' })
    (he : ∀ v h' tk', Fr h₀ L (hid s.heap own) m → Flew base (env :: outer) (hid s.heap own) err errN s v { s with heap := h', toks := tk' } → E v { s with heap := h', toks := tk' }) :
    wpAny (model prog w) (mA dp un gd (env :: outer)) (call (.ref f) args) Q E s := by
  have No : News h₀ L s.heap own := fun q hq => N q (List.mem_append_left _ hq)
  obtain ⟨FG, BG, st, _⟩ := groundX (A := mA dp un gd (env :: outer)) (R := fun _ _ => True) B F No rfl hf hke
  refine wpAny_call (C dp un gd (env :: outer) base s _ BG (X.keeps st) (T.keeps st) (dicts_push F No D hf st) hd hu (fun q hq => (No q hq).1) ?_ ?_)
  · intro v s' own' r hp
    obtain ⟨F', N', hn⟩ := ret_back F N hap r
    have e := r.same
    have := h v own' s'.heap s'.toks hp F' N' hn
    rw [← e] at this; exact this
  · intro v s' r
    have e' := r.1
    have := he v s'.heap s'.toks FG (by rw [← e']; exact r)
    rw [← e'] at this; exact this
/-- a contract is used at a call that does not raise -/
theorem ctr_use (C : Ctr prog w K p loose mean mg mb d u f args own post noErr noErrN) {A₀ : Around} {base h₀ : Heap} {outer : List Env} {env : Env} {L : Addr} {m : Str → Option Value} {s : Shared} {rest : List (Addr × Obj)} {dp un : Nat} {gd : Option (List Code)}
    {Q E : Value → Shared → Prop}
    (B : Below A₀ base outer h₀) (F : Fr h₀ L s.heap m) (X : K.In h₀) (T : Top p loose mean mg mb h₀) (D : KtsDicts (fsOf outer) h₀) (N : News h₀ L s.heap (own ++ rest)) (hf : env.frame = some L) (hke : env.scope.kind = .function)
    (hd : dp + d < recursionLimit) (hu : un + u < cLine) (hap : ∀ q ∈ rest, q.1 ∉ own.map (·.1))
    (h : ∀ v own' h' tk', post v own' → Fr h₀ L h' m → News h₀ L h' (own' ++ rest) → (∀ a ∈ own', a.1 ∈ own.map (·.1) ∨ ∀ q ∈ rest, a.1 ≠ q.1) → Q v { s with heap := h', toks := tk' }) :
    wpAny (model prog w) (mA dp un gd (env :: outer)) (call (.ref f) args) Q E s :=
  ctr_useE C B F X T D N hf hke hd hu hap h fun _ _ _ _ x => (flew_no x).elim
end

/-- a stop of the walk -/
noncomputable def Hold (P : Prop) : Prop := P
theorem Hold.mk {P : Prop} (h : Hold P) : P := h
noncomputable abbrev noE : Value → Shared → Prop := fun _ _ => False

section
variable {prog : Program} {w : World} {A : Around} {E : Value → Shared → Prop} {s : Shared} {env : Env} {h₀ : Heap} {Q : Flow → Shared → Prop}

inductive TurnGo (h₀ : Heap) (L : Addr) (Inv : Nat → (Str → Option Value) → List (Addr × Obj) → Prop) (s : Shared) (n : Nat) (s₅ : Shared) : Prop
  | mk (n' : Nat) (m' : Str → Option Value) (news' : List (Addr × Obj)) (h' : Heap) (tk' : Nat) (hn : n' < n) (e : s₅ = { s with heap := h', toks := tk' }) (F : Fr h₀ L h' m') (N : News h₀ L h' news') (i : Inv n' m' news')
/-- the end of a turn -/
noncomputable def TurnEnd (h₀ : Heap) (L : Addr) (Inv : Nat → (Str → Option Value) → List (Addr × Obj) → Prop) (Q : Flow → Shared → Prop) (s : Shared) (n : Nat) (f : Flow) (s₅ : Shared) : Prop := match f with
  | .next | .cont => TurnGo h₀ L Inv s n s₅
  | .brk => Q .next s₅
  | .ret v => Q (.ret v) s₅

inductive LoopSt (h₀ : Heap) (L : Addr) (Inv : Nat → (Str → Option Value) → List (Addr × Obj) → Prop) (s : Shared) (n : Nat) : Shared → Prop
  | mk (m₁ : Str → Option Value) (news₁ : List (Addr × Obj)) (h : Heap) (tk : Nat) (i : Inv n m₁ news₁) (F : Fr h₀ L h m₁) (N : News h₀ L h news₁) : LoopSt h₀ L Inv s n { s with heap := h, toks := tk }
theorem TurnGo.less {L : Addr} {Inv : Nat → (Str → Option Value) → List (Addr × Obj) → Prop} {s s₅ : Shared} {n : Nat} (h : TurnGo h₀ L Inv s n s₅) : ∃ n', n' < n ∧ LoopSt h₀ L Inv s n' s₅ := by
  obtain ⟨n', m', news', h', tk', hn, e, F, N, i⟩ := h
  exact ⟨n', hn, e ▸ .mk m' news' h' tk' i F N⟩
theorem while_inv {test : Expr} {body : List Stmt} {pos : Pos} {m₀ : Str → Option Value} {news : List (Addr × Obj)} {n₀ : Nat} (Inv : Nat → (Str → Option Value) → List (Addr × Obj) → Prop)
    (F : Fr h₀ env.locals s.heap m₀) (N : News h₀ env.locals s.heap news) (h0 : Inv n₀ m₀ news)
    (turn : ∀ n m₁ news₁ h tk, Inv n m₁ news₁ → Fr h₀ env.locals h m₁ → News h₀ env.locals h news₁ →
      wpAny (model prog w) A (isTrue test env (eval test env)) (fun b s₂ => if b then wpAny (model prog w) A (execs body env) (TurnEnd h₀ env.locals Inv Q s n) noE s₂ else Q .next s₂) noE { s with heap := h, toks := tk }) :
    wpAny (model prog w) A (exec (.While test body [] pos) env) Q E s := by
  refine wpAny_While (codeAny_whileLoop (fun n s' => LoopSt h₀ env.locals Inv s n s') ?_ n₀ (.mk m₀ news s.heap s.toks h0 F N))
  rintro n s' ⟨m₁, news₁, h, tk, hI, F₁, N₁⟩
  refine wpAny_mono (turn n m₁ news₁ h tk hI F₁ N₁) (fun b s₂ h₂ => ?_) fun _ _ x => x.elim
  cases b with
  | false => simp only [Bool.false_eq_true, if_false] at h₂ ⊢; exact wpAny_execs_nil h₂
  | true =>
    simp only [if_true] at h₂ ⊢
    refine wpAny_mono h₂ (fun f s₃ h₃ => ?_) fun _ _ x => x.elim
    cases f with
    | next => exact h₃.less
    | cont => exact h₃.less
    | brk => exact h₃
    | ret v => exact h₃

/-- the turns of a for over an iterator -/
noncomputable def ForTurn (prog : Program) (w : World) (A : Around) (h₀ : Heap) (env : Env) (tgt : Expr) (body : List Stmt) (Q : Flow → Shared → Prop) (s : Shared) (Inv : Nat → (Str → Option Value) → List (Addr × Obj) → Prop) (it : Value) : Prop :=
  ∀ n m₁ news₁ h tk, Inv n m₁ news₁ → Fr h₀ env.locals h m₁ → News h₀ env.locals h news₁ →
    wpAny (model prog w) A (pyNext it) (fun r s₃ => match r with
      | none => Q .next s₃
      | some v => wpAny (model prog w) A (assign tgt env v) (fun _ s₄ => wpAny (model prog w) A (execs body env) (TurnEnd h₀ env.locals Inv Q s n) noE s₄) noE s₃) noE { s with heap := h, toks := tk }

inductive ForStart (prog : Program) (w : World) (A : Around) (h₀ : Heap) (env : Env) (tgt : Expr) (body : List Stmt) (Q : Flow → Shared → Prop) (it : Value) (s₂ : Shared) : Prop
  | mk (Inv : Nat → (Str → Option Value) → List (Addr × Obj) → Prop) (n : Nat) (m₁ : Str → Option Value) (news₁ : List (Addr × Obj)) (i : Inv n m₁ news₁) (F : Fr h₀ env.locals s₂.heap m₁) (N : News h₀ env.locals s₂.heap news₁) (hl : ∀ v, letOwnedTupleGo tgt it v = pure ()) (turn : ForTurn prog w A h₀ env tgt body Q s₂ Inv it)
theorem for_inv {tgt : Expr} {iter : Expr} {body : List Stmt} {pos : Pos}
    (h : wpAny (model prog w) A (eval iter env) (fun xv s₁ => wpAny (model prog w) A (pyIter xv) (fun it s₂ => ForStart prog w A h₀ env tgt body Q it s₂) noE s₁) noE s)
    (hs : ∀ x, foldedSetIterable iter env x = pure x := by intro _; rfl) :
    wpAny (model prog w) A (exec (.For tgt iter body [] pos) env) Q E s := by
  have key : wpAny (model prog w) A (exec (.For tgt iter body [] pos) env) Q noE s := by
    refine wpAny_For (wpAny_mono h (fun xv s₁ h₁ => wpAny_mono h₁ (fun it s₂ h₂ => ?_) fun _ _ x => x.elim) fun _ _ x => x.elim) hs
    obtain ⟨Inv, n, m₁, news₁, hI, F₁, N₁, hlet, turn⟩ := h₂
    refine codeAny_forLoop (fun n s' => LoopSt h₀ env.locals Inv s₂ n s') ?_ n (.mk m₁ news₁ s₂.heap s₂.toks hI F₁ N₁) hlet
    rintro n s' ⟨m₁, news₁, h, tk, hI, F₁, N₁⟩
    refine wpAny_mono (turn n m₁ news₁ h tk hI F₁ N₁) (fun r s₃ h₃ => ?_) fun _ _ x => x.elim
    cases r with
    | none => exact wpAny_execs_nil h₃
    | some v =>
      refine wpAny_mono h₃ (fun _ s₄ h₄ => wpAny_mono h₄ (fun f s₅ h₅ => ?_) fun _ _ x => x.elim) fun _ _ x => x.elim
      cases f with
      | next => exact h₅.less
      | cont => exact h₅.less
      | brk => exact h₅
      | ret v => exact h₅
  exact wpAny_mono key (fun _ _ x => x) fun _ _ x => x.elim

/-- the ledger behind a change of one object, and behind new ones -/
theorem news_same {L I : Addr} {h h' : Heap} {oI : Obj} {rest : List (Addr × Obj)} (hs : Heap.ExtBut I h h') (hI : h'.get? I = some oI) (hIL : I ≠ L) (hI0 : h₀.get? I = none) (hne : ∀ q ∈ rest, q.1 ≠ I)
    (N : News h₀ L h rest) : News h₀ L h' ((I, oI) :: rest) := by
  intro q hq
  rcases List.mem_cons.mp hq with rfl | hq
  · exact ⟨hI, hIL, hI0⟩
  · exact ⟨hs q.1 q.2 (hne q hq) (N q hq).1, (N q hq).2⟩
theorem fr_same {L I : Addr} {h h' : Heap} {m : Str → Option Value} (F : Fr h₀ L h m) (hs : Heap.ExtBut I h h') (hIL : I ≠ L) (hI0 : h₀.get? I = none) : Fr h₀ L h' m := by
  obtain ⟨oL, es, ep, hL, r⟩ := F.ns
  exact ⟨⟨oL, es, ep, hs L oL (Ne.symm hIL) hL, r⟩, fun b o e => hs b o (fun q => by rw [q, hI0] at e; cases e) (F.keep b o e), F.above⟩

noncomputable def IsLI (l : Addr) (i : Nat) (o : Obj) : Prop := o.cls = .type "list_iterator" ∧ o.data = .fields #[.ref l, .int i 0]
theorem next_list {I l : Addr} {oI : Obj} {i : Nat} {m : Str → Option Value} {vs : Array Value} {rest : List (Addr × Obj)} {Q : Option Value → Shared → Prop} {E : Value → Shared → Prop} (hh : A.handled = none)
    (F : Fr h₀ env.locals s.heap m) (N : News h₀ env.locals s.heap ((I, oI) :: rest)) (hI : IsLI l i oI) (hl : s.heap.IsList l vs) (hne : ∀ q ∈ rest, q.1 ≠ I)
    (item : ∀ v h' oI', vs[i]? = some v → IsLI l (i + 1) oI' → Fr h₀ env.locals h' m → News h₀ env.locals h' ((I, oI') :: rest) → Q (some v) { s with heap := h' })
    (done : ∀ h', vs[i]? = none → Fr h₀ env.locals h' m → News h₀ env.locals h' rest → Q none { s with heap := h' }) :
    wpAny (model prog w) A (pyNext (.ref I)) Q E s := by
  have z := N _ (List.mem_cons_self ..)
  have Nr : News h₀ env.locals s.heap rest := fun q hq => N q (List.mem_cons_of_mem _ hq)
  have hit : s.heap.IsListIter I l i := ⟨oI, z.1, hI⟩
  cases hv : vs[i]? with
  | some v =>
    refine wpAny_pyNext_list_item hit hl hv fun h' hit' hs' => ?_
    obtain ⟨o', ho', hc'⟩ := hit'
    exact item v h' o' hv hc' (fr_same F hs'.extBut z.2.1 z.2.2) (news_same hs'.extBut ho' z.2.1 z.2.2 hne Nr)
  | none =>
    refine wpAny_pyNext_list_end hh hit hl hv fun h' hs' => ?_
    exact done h' hv (fr_same F hs' z.2.1 z.2.2) fun q hq => ⟨hs' q.1 q.2 (hne q hq) (Nr q hq).1, (Nr q hq).2⟩

theorem iter_list {l : Addr} {vs : Array Value} {m : Str → Option Value} {news : List (Addr × Obj)} {L : Addr} {Q : Value → Shared → Prop} {E : Value → Shared → Prop}
    (F : Fr h₀ L s.heap m) (N : News h₀ L s.heap news) (hl : s.heap.IsList l vs)
    (h : ∀ I oI h', IsLI l 0 oI → Fr h₀ L h' m → News h₀ L h' ((I, oI) :: news) → (∀ q ∈ news, q.1 < I) → h'.IsList l vs → Q (.ref I) { s with heap := h' }) : wpAny (model prog w) A (pyIter (.ref l)) Q E s :=
  wpAny_pyIter_list hl (h _ _ _ ⟨rfl, rfl⟩ (F.push _) (N.push F _) (fun q hq => Heap.lt_size (N q hq).1) (hl.push _))
end

-- part pl0
theorem fm_range (l : List Nat) : ∀ (n i : Nat), ((List.range n).map (i + ·)).filterMap (fun k => l.toArray[k]?) = (l.drop i).take n
  | 0, i => by simp
  | n + 1, i => by
    rw [List.range_succ, List.map_append, List.filterMap_append, fm_range l n i, List.take_add_one]
    congr 1
    simp only [List.map_cons, List.map_nil, List.filterMap_cons, List.filterMap_nil, List.getElem?_toArray, List.getElem?_drop]
    cases l[i + n]? <;> rfl
theorem sr_len (a b : Nat) : (if (1 : Int) > 0 then (if (a : Int) < b then ((b : Int) - a + 1 - 1) / 1 else 0) else (if (a : Int) > b then ((a : Int) - b - 1 - 1) / (-1) else 0)).toNat = b - a := by
  rw [if_pos (by decide), Int.ediv_one, Int.add_sub_cancel]
  split
  · exact Int.toNat_sub b a
  · rename_i h
    rw [Nat.sub_eq_zero_of_le (Int.ofNat_le.mp (Int.not_lt.mp h))]; rfl
theorem sr_one (a b : Nat) : sliceRange (a : Int) (b : Int) 1 = (List.range (b - a)).map (a + ·) := by
  unfold sliceRange
  show List.map (fun k => _) (List.range (Int.toNat _)) = _
  rw [sr_len]
  exact List.map_congr_left fun k _ => by show ((a : Int) + 1 * (k : Int)).toNat = a + k; rw [Int.one_mul]; exact Int.toNat_natCast (a + k)
theorem slice_gen (x : Str) (l u : Option Int) (a b : Nat) (h : strSliceIndices l u 1 x.length = sliceRange (a : Int) (b : Int) 1) (hb : b ≤ x.length) : (Txt.slice x l u).cps.toList = (x.cps.toList.drop a).take (b - a) := by
  unfold Txt.slice
  rw [h, sr_one]
  have hx : x.length = x.cps.toList.length := by simp [Str.length]
  split
  · rename_i hc
    simp only [List.length_map, List.length_range, Bool.and_eq_true, beq_iff_eq] at hc
    have hc2 := hc.2
    by_cases h0 : x.length = 0
    · have : x.cps.toList = [] := List.eq_nil_of_length_eq_zero (hx ▸ h0)
      rw [this, List.drop_nil, List.take_nil]
    · obtain rfl : a = 0 := by omega
      obtain rfl : b = x.length := by omega
      rw [List.drop_zero, Nat.sub_zero, hx, List.take_length]
  · have := fm_range x.cps.toList (b - a) a
    simpa using this
theorem cut_min {α : Type _} (l : List α) (i j : Nat) : (l.drop (min i l.length)).take (min j l.length - min i l.length) = (l.drop i).take (j - i) := by
  rw [← List.drop_take, ← List.drop_take, ← List.take_eq_take_min]
  rcases Nat.le_total i l.length with h | h
  · rw [Nat.min_eq_left h]
  · have hl : (l.take j).length ≤ l.length := by rw [List.length_take]; exact Nat.min_le_right ..
    rw [Nat.min_eq_right h, List.drop_eq_nil_of_le hl, List.drop_eq_nil_of_le (Nat.le_trans hl h)]
theorem len_cps (x : Str) : x.length = x.cps.toList.length := (Array.length_toList ..).symm
theorem slice_ss (x : Str) (i j : Nat) : (Txt.slice x (some (i : Int)) (some (j : Int))).cps.toList = (x.cps.toList.drop i).take (j - i) := by
  rw [slice_gen x _ _ (min i x.length) (min j x.length) (by
    unfold strSliceIndices
    simp only [show (1 : Int) > 0 by decide, if_true]
    congr 1
    · rw [if_neg (Int.not_lt.mpr (Int.natCast_nonneg i))]; first | exact (Int.natCast_min ..).symm | exact (Int.natCast_min ..) | omega
    · rw [if_neg (Int.not_lt.mpr (Int.natCast_nonneg j))]; first | exact (Int.natCast_min ..).symm | exact (Int.natCast_min ..) | omega) (Nat.min_le_right ..), len_cps, cut_min]
theorem slice_ns (x : Str) (j : Nat) : (Txt.slice x none (some (j : Int))).cps.toList = x.cps.toList.take j := by
  rw [slice_gen x _ _ 0 (min j x.length) (by
    unfold strSliceIndices
    simp only [show (1 : Int) > 0 by decide, if_true]
    congr 1
    rw [if_neg (Int.not_lt.mpr (Int.natCast_nonneg j))]; first | exact (Int.natCast_min ..).symm | exact (Int.natCast_min ..) | omega) (Nat.min_le_right ..), len_cps, List.drop_zero, Nat.sub_zero, ← List.take_eq_take_min]
theorem str_ext {x y : Str} (h : x.cps.toList = y.cps.toList) : x = y := by
  obtain ⟨a⟩ := x; obtain ⟨b⟩ := y
  congr 1
  exact Array.toList_inj.mp h
theorem str_beq {x y : Str} {l : List Nat} (hx : x.cps.toList = l) {m : List Nat} (hy : y.cps.toList = m) : (x == y) = decide (l = m) := by
  rw [Bool.eq_iff_iff]
  simp only [beq_iff_eq, decide_eq_true_eq]
  constructor
  · intro h; rw [← hx, ← hy, h]
  · intro h; exact str_ext (by rw [hx, hy, h])
theorem str_bne {x y : Str} {l m : List Nat} (hx : x.cps.toList = l) (hy : y.cps.toList = m) : (x != y) = !decide (l = m) := by
  show (!(x == y)) = _
  rw [str_beq hx hy]
theorem item_at {x : Str} {i : Nat} {c : Nat} (h : x.cps[i]? = some c) : Txt.item x (i : Int) = ⟨#[c]⟩ := by
  obtain ⟨hlt, e⟩ := Array.getElem?_eq_some_iff.mp h
  unfold Txt.item Txt.charAt seqIndex?
  have hl : (i : Int) < (x.length : Int) := by have : i < x.length := hlt; omega
  simp [show ¬ ((i : Int) < 0) by omega, hl, h]

-- part pl1
noncomputable def strOf (l : List Nat) : Str := ⟨l.toArray⟩
theorem drop_at' {x : Str} {i c : Nat} (h : x.cps[i]? = some c) : x.cps.toList.drop i = c :: x.cps.toList.drop (i + 1) := by
  have h' : x.cps.toList[i]? = some c := by simpa using h
  obtain ⟨hlt, e⟩ := List.getElem?_eq_some_iff.mp h'
  rw [← e]; exact List.drop_eq_getElem_cons hlt
theorem has_at {x : Str} {i : Nat} (h : i < x.length) : ∃ c, x.cps[i]? = some c := ⟨x.cps[i]'h, Array.getElem?_eq_getElem h⟩
theorem drop_end {x : Str} {i : Nat} (h : x.length ≤ i) : x.cps.toList.drop i = [] := List.drop_eq_nil_of_le (by simpa [Str.length] using h)
theorem one_beq {c d : Nat} {y : Str} {b : Bool} (hy : y = ⟨#[d]⟩) (h : ((⟨#[c]⟩ : Str) == y) = b) : decide (c = d) = b := by
  subst hy
  rw [← h, Bool.eq_iff_iff]
  simp
theorem one_bne {c d : Nat} {y : Str} {b : Bool} (hy : y = ⟨#[d]⟩) (h : ((⟨#[c]⟩ : Str) != y) = b) : decide (c ≠ d) = b := by
  subst hy
  rw [← h, Bool.eq_iff_iff]
  simp
theorem item1 {x : Str} {i c : Nat} (h : x.cps[i + 1]? = some c) : Txt.item x ((i : Int) + 1) = ⟨#[c]⟩ := item_at h
-- part pl1b
noncomputable def tillClose : List Nat → List Nat → List Nat
  | _, [] => []
  | acc, c :: r => if c = 41 then acc else tillClose (acc ++ [c]) r
noncomputable def insideL : List Nat → List Nat
  | [] => []
  | c :: r => if c = 40 then tillClose [] r else insideL r
theorem at_lt {x : Str} {i c : Nat} (h : x.cps[i]? = some c) : i < x.length := by
  obtain ⟨hlt, _⟩ := Array.getElem?_eq_some_iff.mp h
  exact hlt
-- part pl2
theorem getD_at {x : Str} {i c : Nat} (h : i < x.length) (e : x.cps.getD i 0 = c) : x.cps[i]? = some c := by
  have h' : i < x.cps.size := h
  rw [Array.getD_eq_getD_getElem?, Array.getElem?_eq_getElem h', Option.getD_some] at e
  rw [Array.getElem?_eq_getElem h', e]
/-- the first place of a sign from a place on -/
theorem find3_cases (x y : Str) (c i : Nat) (hy : y = ⟨#[c]⟩) (hi : i ≤ x.length) :
    (Txt.find3 x y (i : Int) = -1 ∧ c ∉ x.cps.toList.drop i) ∨
    ∃ k : Nat, Txt.find3 x y (i : Int) = (k : Int) ∧ i ≤ k ∧ k < x.length ∧ x.cps[k]? = some c ∧ c ∉ (x.cps.toList.drop i).take (k - i) := by
  subst hy
  have hfi : fromIndex x.length (i : Int) = i := by unfold fromIndex; rw [if_neg (Int.not_lt.mpr (Int.natCast_nonneg i))]; first | exact Int.toNat_natCast i | omega
  have hmem : ∀ (n : Nat), (∀ v, i ≤ v → v < i + n → v < x.length → x.cps.getD v 0 ≠ c) → c ∉ (x.cps.toList.drop i).take n := by
    intro n hn hm
    obtain ⟨j, hj, e⟩ := List.mem_iff_getElem.mp hm
    simp only [List.length_take, List.length_drop, Array.length_toList] at hj
    have hj := Nat.lt_min.mp hj
    have hlt : i + j < x.length := Nat.add_lt_of_lt_sub' hj.2
    refine hn (i + j) (Nat.le_add_right ..) (Nat.add_lt_add_left hj.1 i) hlt ?_
    rw [List.getElem_take, List.getElem_drop] at e
    rw [Array.getD_eq_getD_getElem?, Array.getElem?_eq_getElem hlt, Option.getD_some, ← e]; rfl
  rcases StrLaws.find3_spec x c i with ⟨h, hn⟩ | ⟨k, h, hlo, hk, hat, hn⟩
  · rw [hfi] at hn
    refine .inl ⟨h, ?_⟩
    have := hmem (x.length - i) fun v h1 h2 h3 => hn v h1 h3
    rwa [List.take_of_length_le (by rw [List.length_drop]; exact Nat.le_refl _)] at this
  · rw [hfi] at hlo hn
    exact .inr ⟨k, h, hlo, hk, getD_at hk hat, hmem (k - i) fun v h1 h2 _ => hn v h1 (Nat.add_sub_cancel' hlo ▸ h2)⟩
theorem find_cases (x y : Str) (c : Nat) (hy : y = ⟨#[c]⟩) :
    (Txt.find x y = -1 ∧ c ∉ x.cps.toList) ∨ ∃ k : Nat, Txt.find x y = (k : Int) ∧ k < x.length ∧ x.cps[k]? = some c ∧ c ∉ x.cps.toList.take k := by
  rw [find_is_find3]
  rcases find3_cases x y c 0 hy (Nat.zero_le _) with ⟨h, hn⟩ | ⟨k, h, _, hk, hat, hn⟩
  · exact .inl ⟨h, by simpa using hn⟩
  · exact .inr ⟨k, h, hk, hat, by simpa using hn⟩
theorem tillClose_none : ∀ (l acc : List Nat), 41 ∉ l → tillClose acc l = []
  | [], _, _ => rfl
  | c :: r, acc, h => by
    have hc : c ≠ 41 := fun e => h (e ▸ List.mem_cons_self ..)
    rw [tillClose, if_neg hc]
    exact tillClose_none r _ fun q => h (List.mem_cons_of_mem _ q)
theorem tillClose_some : ∀ (l acc r : List Nat), 41 ∉ l → tillClose acc (l ++ 41 :: r) = acc ++ l
  | [], acc, r, _ => by simp [tillClose]
  | c :: l, acc, r, h => by
    have hc : c ≠ 41 := fun e => h (e ▸ List.mem_cons_self ..)
    rw [List.cons_append, tillClose, if_neg hc, tillClose_some l _ r fun q => h (List.mem_cons_of_mem _ q)]
    simp
theorem insideL_none : ∀ (l : List Nat), 40 ∉ l → insideL l = []
  | [], _ => rfl
  | c :: r, h => by
    have hc : c ≠ 40 := fun e => h (e ▸ List.mem_cons_self ..)
    rw [insideL, if_neg hc]
    exact insideL_none r fun q => h (List.mem_cons_of_mem _ q)
theorem insideL_at : ∀ (l r : List Nat), 40 ∉ l → insideL (l ++ 40 :: r) = tillClose [] r
  | [], r, _ => by simp [insideL]
  | c :: l, r, h => by
    have hc : c ≠ 40 := fun e => h (e ▸ List.mem_cons_self ..)
    rw [List.cons_append, insideL, if_neg hc, insideL_at l r fun q => h (List.mem_cons_of_mem _ q)]
theorem split_at {x : Str} {k c : Nat} (h : x.cps[k]? = some c) : x.cps.toList = x.cps.toList.take k ++ c :: x.cps.toList.drop (k + 1) := by
  rw [← drop_at' h, List.take_append_drop]
theorem inside_open {x : Str} {f : Nat} (h : x.cps[f]? = some 40) (hn : 40 ∉ x.cps.toList.take f) : insideL x.cps.toList = tillClose [] (x.cps.toList.drop (f + 1)) := by
  rw [split_at h, insideL_at _ _ hn]
  congr 1
  have e := split_at h
  have := drop_at' h
  conv => rhs; rw [← e]
theorem inside_both {x : Str} {f r : Nat} (h : x.cps[f]? = some 40) (hn : 40 ∉ x.cps.toList.take f) (h2 : x.cps[r]? = some 41) (hfr : f + 1 ≤ r) (hn2 : 41 ∉ (x.cps.toList.drop (f + 1)).take (r - (f + 1))) :
    insideL x.cps.toList = (x.cps.toList.drop (f + 1)).take (r - (f + 1)) := by
  rw [inside_open h hn]
  have e : x.cps.toList.drop (f + 1) = (x.cps.toList.drop (f + 1)).take (r - (f + 1)) ++ 41 :: x.cps.toList.drop (r + 1) := by
    rw [← drop_at' h2]
    conv => lhs; rw [← List.take_append_drop (r - (f + 1)) (x.cps.toList.drop (f + 1))]
    rw [List.drop_drop, Nat.add_sub_cancel' hfr]
  conv => lhs; rw [e]
  rw [tillClose_some _ _ _ hn2]
  simp

-- part pl3
noncomputable def splitL (c : Nat) : List Nat → List (List Nat)
  | [] => [[]]
  | a :: r => if a = c then [] :: splitL c r else match splitL c r with
    | h :: t => (a :: h) :: t
    | [] => [[a]]
theorem splitL_ne (c : Nat) : ∀ l, splitL c l ≠ []
  | [] => by simp [splitL]
  | a :: r => by
    rw [splitL]
    split
    · simp
    · cases h : splitL c r with
      | nil => simp
      | cons x y => simp
theorem splitL_free (c : Nat) : ∀ l : List Nat, c ∉ l → splitL c l = [l]
  | [], _ => rfl
  | a :: r, h => by
    have ha : a ≠ c := fun e => h (by rw [e]; exact List.mem_cons_self ..)
    rw [splitL, if_neg ha, splitL_free c r (fun m => h (List.mem_cons_of_mem _ m))]
theorem splitL_at (c : Nat) : ∀ (p r : List Nat), c ∉ p → splitL c (p ++ c :: r) = p :: splitL c r
  | [], r, _ => by simp [splitL]
  | a :: p, r, h => by
    have ha : a ≠ c := fun e => h (by rw [e]; exact List.mem_cons_self ..)
    rw [List.cons_append, splitL, if_neg ha, splitL_at c p r (fun m => h (List.mem_cons_of_mem _ m))]
theorem splitL_join (c : Nat) : ∀ l : List Str, l ≠ [] → (∀ p ∈ l, c ∉ p.cps.toList) → splitL c (Str.join ⟨#[c]⟩ l).cps.toList = l.map (·.cps.toList)
  | [], h, _ => absurd rfl h
  | [x], _, h => by
    rw [show Str.join ⟨#[c]⟩ [x] = x from rfl, splitL_free c _ (h x (List.mem_cons_self ..))]; rfl
  | x :: y :: r, _, h => by
    rw [PyProof.Rows.join_cons_cons, Str.cps_append, Str.cps_append, Array.toList_append, Array.toList_append, List.append_assoc]
    show splitL c (_ ++ c :: _) = _
    rw [splitL_at c _ _ (h x (List.mem_cons_self ..)), show ([] : List Nat).append (Str.join ⟨#[c]⟩ (y :: r)).cps.toList = (Str.join ⟨#[c]⟩ (y :: r)).cps.toList from rfl, splitL_join c (y :: r) (by simp) (fun p hp => h p (List.mem_cons_of_mem _ hp))]
    rfl
theorem split_eq (x : Str) (c : Nat) : (Txt.split x ⟨#[c]⟩).map (·.cps.toList) = splitL c x.cps.toList := by
  have hne : Txt.split x ⟨#[c]⟩ ≠ [] := fun e => by
    have := split_len x c
    rw [e] at this
    have h2 : ∀ l : List Nat, 0 ≤ cnt c l := fun l => by
      induction l with
      | nil => exact Int.le_refl _
      | cons a r ih =>
        rw [cnt_cons]
        split <;> omega
    have := h2 x.cps.toList
    simp only [List.length_nil] at *
    omega
  have h := splitL_join c (Txt.split x ⟨#[c]⟩) hne (StrLaws.split_free x c)
  rw [StrLaws.join_split] at h
  exact h.symm
noncomputable def port229 (ins : List Nat) : Option (List Nat) := match ins with
  | [] => none
  | c :: r => if (c :: r).getLast? = some c ∧ (splitL c (c :: r)).length = 5 then (splitL c (c :: r))[3]? else none
theorem port_empty {ins : List Nat} (h : ins = []) : port229 ins = none := by rw [h]; rfl
/-- the walk's two signs and what they say of the text between -/
theorem port_ends {x : Str} {f r c d : Nat} (hf : x.cps[f]? = some 40) (hr : x.cps[r]? = some 41) (hfr : f + 1 ≤ r) (hc : x.cps[f + 1]? = some c) (hd : x.cps[r - 1]? = some d) :
    (c ≠ d → port229 ((x.cps.toList.drop (f + 1)).take (r - (f + 1))) = none) ∧
    (c = d → ∃ rest, (x.cps.toList.drop (f + 1)).take (r - (f + 1)) = c :: rest ∧ (c :: rest).getLast? = some c) := by
  have hlr : r < x.cps.toList.length := len_cps x ▸ at_lt hr
  by_cases e : r = f + 1
  · subst e
    have h1 : c = 41 := by rw [hr] at hc; exact (Option.some.inj hc).symm
    have h2 : d = 40 := by rw [Nat.add_sub_cancel, hf] at hd; exact (Option.some.inj hd).symm
    refine ⟨fun _ => by rw [Nat.sub_self, List.take_zero]; rfl, fun h => ?_⟩
    rw [h1, h2] at h; cases h
  · obtain ⟨k, rfl⟩ := Nat.exists_eq_add_of_lt (Nat.lt_of_le_of_ne hfr (Ne.symm e))
    have hk : f + 1 + k + 1 - (f + 1) = k + 1 := by rw [Nat.add_assoc (f + 1)]; exact Nat.add_sub_cancel_left ..
    have hl : ((x.cps.toList.drop (f + 1)).take (k + 1)).getLast? = some d := by
      have hlen : ((x.cps.toList.drop (f + 1)).take (k + 1)).length = k + 1 := by
        rw [List.length_take, List.length_drop, Nat.min_eq_left]
        exact Nat.le_sub_of_add_le (by rw [Nat.add_comm]; exact Nat.le_of_lt hlr)
      rw [List.getLast?_eq_getElem?, hlen, Nat.add_sub_cancel, List.getElem?_take, if_pos (Nat.lt_succ_self k), List.getElem?_drop, ← hd, Nat.add_sub_cancel, Array.getElem?_toList]
    rw [hk]
    rw [drop_at' hc, List.take_succ_cons] at hl ⊢
    refine ⟨fun h => ?_, fun h => ⟨_, rfl, by rw [hl, h]⟩⟩
    show (if _ ∧ _ then _ else none) = none
    rw [if_neg]
    rintro ⟨h1, _⟩
    rw [hl] at h1
    exact h (Option.some.inj h1).symm
theorem port_parts {X : Str} {c : Nat} {rest : List Nat} (hX : X.cps.toList = c :: rest) (hl : (c :: rest).getLast? = some c) :
    ((Txt.split X ⟨#[c]⟩).length ≠ 5 → port229 (c :: rest) = none) ∧ (∀ y, (Txt.split X ⟨#[c]⟩).length = 5 → (Txt.split X ⟨#[c]⟩)[3]? = some y → port229 (c :: rest) = some y.cps.toList) := by
  have e := split_eq X c
  rw [hX] at e
  have hn := congrArg List.length e
  rw [List.length_map] at hn
  refine ⟨fun h => ?_, fun y h hy => ?_⟩
  · show (if _ ∧ _ then _ else none) = none
    rw [if_neg]
    rintro ⟨_, h1⟩
    exact h (hn.trans h1)
  · show (if _ ∧ _ then _ else none) = _
    rw [if_pos ⟨hl, hn.symm.trans h⟩, ← e, List.getElem?_map, hy]; rfl
theorem splitL_mem (c : Nat) : ∀ (l p : List Nat), p ∈ splitL c l → ∀ a ∈ p, a ∈ l
  | [], p, h, a, ha => by
    rw [splitL, List.mem_singleton] at h
    rw [h] at ha; cases ha
  | b :: r, p, h, a, ha => by
    rw [splitL] at h
    split at h
    · rcases List.mem_cons.mp h with rfl | h
      · cases ha
      · exact List.mem_cons_of_mem _ (splitL_mem c r p h a ha)
    · cases hs : splitL c r with
      | nil => exact absurd hs (splitL_ne c r)
      | cons x y =>
        rw [hs] at h
        rcases List.mem_cons.mp h with rfl | h
        · rcases List.mem_cons.mp ha with rfl | ha
          · exact List.mem_cons_self ..
          · exact List.mem_cons_of_mem _ (splitL_mem c r x (by rw [hs]; exact List.mem_cons_self ..) a ha)
        · exact List.mem_cons_of_mem _ (splitL_mem c r p (by rw [hs]; exact List.mem_cons_of_mem _ h) a ha)
theorem tillClose_mem : ∀ (l acc : List Nat) (a : Nat), a ∈ tillClose acc l → a ∈ acc ∨ a ∈ l
  | [], acc, a, h => by cases h
  | c :: r, acc, a, h => by
    rw [tillClose] at h
    split at h
    · exact .inl h
    · rcases tillClose_mem r _ a h with h | h
      · rcases List.mem_append.mp h with h | h
        · exact .inl h
        · rw [List.mem_singleton] at h; exact .inr (h ▸ List.mem_cons_self ..)
      · exact .inr (List.mem_cons_of_mem _ h)
theorem insideL_mem : ∀ (l : List Nat) (a : Nat), a ∈ insideL l → a ∈ l
  | [], a, h => by cases h
  | c :: r, a, h => by
    rw [insideL] at h
    split at h
    · rcases tillClose_mem r [] a h with h | h
      · cases h
      · exact List.mem_cons_of_mem _ h
    · exact List.mem_cons_of_mem _ (insideL_mem r a h)
theorem port_mem {ins y : List Nat} (h : port229 ins = some y) : ∀ a ∈ y, a ∈ ins := by
  cases ins with
  | nil => cases h
  | cons c r =>
    replace h : (if _ ∧ _ then _ else none) = some y := h
    split at h
    · exact splitL_mem c _ y (List.mem_of_getElem? h)
    · cases h
theorem strOf_toList (x : Str) : strOf x.cps.toList = x := by
  apply str_ext; simp [strOf]

-- part pl4
/-! what get_token reads, over signs -/
noncomputable def isWs (c : Nat) : Bool := c == 10 || c == 9 || c == 13 || c == 32
noncomputable def quoted : List Nat → List Nat → List Nat × List Nat
  | acc, [] => (acc, [])
  | acc, c :: r => if c = 34 then (acc, r) else if c = 92 then (match r with | [] => (acc, []) | d :: r' => quoted (acc ++ [d]) r') else quoted (acc ++ [c]) r
noncomputable def bare : List Nat → List Nat → List Nat × List Nat
  | acc, [] => (acc, [])
  | acc, c :: r => if isWs c then (acc, r) else if c = 92 then (match r with | [] => (acc, []) | d :: r' => bare (acc ++ [d]) r') else bare (acc ++ [c]) r
noncomputable def token : List Nat → List Nat × List Nat
  | [] => ([], [])
  | c :: r => if isWs c then token r else if c = 34 then quoted [] r else if c = 92 then (match r with | [] => ([], []) | d :: r' => bare [d] r') else bare [c] r
noncomputable def nls (l : List Nat) : Int := (l.count 10 : Nat)
theorem ws_of {c : Nat} {b : Bool} (h : (Builtin.Str.occurrences (Str.ofString "\n\t\r ") ⟨#[c]⟩ 0 (Str.ofString "\n\t\r ").length 1).isEmpty = b) : isWs c = !b := by
  have e := StrLaws.found_one (Str.ofString "\n\t\r ") c
  rw [h] at e
  rw [e]
  have l : (Str.ofString "\n\t\r ").cps.toList = [10, 9, 13, 32] := by decide +kernel
  rw [l, isWs, Bool.eq_iff_iff]
  simp only [Bool.or_eq_true, beq_iff_eq, decide_eq_true_eq, List.mem_cons, List.not_mem_nil, or_false, or_assoc]
theorem token_ws {c : Nat} {r : List Nat} (h : isWs c = true) : token (c :: r) = token r := by rw [token.eq_def]; simp only [h, if_true]
theorem nls_snoc (l : List Nat) (c : Nat) : nls (l ++ [c]) = if c = 10 then nls l + 1 else nls l := by
  unfold nls
  by_cases h : c = 10
  · simp [h, List.count_append]
  · simp [h, List.count_append, List.count_singleton]
theorem token_bare {c : Nat} {r : List Nat} (h : isWs c = false) (h1 : c ≠ 34) (h2 : c ≠ 92) : token (c :: r) = bare (Str.ofString "" ++ ⟨#[c]⟩ : Str).cps.toList r := by
  rw [token.eq_def]; simp only [h, h1, h2, if_false, Bool.false_eq_true]
  rw [Str.cps_append]; simp [show (Str.ofString "").cps = #[] from by decide +kernel]
theorem nls_app (a b : List Nat) : nls (a ++ b) = nls a + nls b := by unfold nls; rw [List.count_append]; exact Int.natCast_add ..
theorem bare_ws {acc : List Nat} {c : Nat} {r : List Nat} (h : isWs c = true) : bare acc (c :: r) = (acc, r) := by rw [bare.eq_def]; simp only [h, if_true]
theorem bare_sign {dn : Str} {c : Nat} {r : List Nat} (h : isWs c = false) (h2 : c ≠ 92) : bare dn.cps.toList (c :: r) = bare (dn ++ ⟨#[c]⟩ : Str).cps.toList r := by
  rw [bare.eq_def]; simp only [h, h2, if_false, Bool.false_eq_true]; rw [Str.cps_append]; simp
theorem bare_esc {α : Type _} {f : α → Nat} {dn : Str} {e r : List α} (h : e.length = 1 ∨ (e = [] ∧ r = [])) : bare dn.cps.toList (92 :: (e ++ r).map f) = bare (dn ++ strOf (e.map f)).cps.toList (r.map f) := by
  rcases h with h | ⟨rfl, rfl⟩
  · obtain ⟨a, rfl⟩ := List.length_eq_one_iff.mp h
    rw [bare.eq_def]; rw [Str.cps_append]; simp [isWs, strOf]
  · rw [bare.eq_def, bare.eq_def]; rw [Str.cps_append]; simp [isWs, strOf]
theorem token_esc {α : Type _} {f : α → Nat} {e r : List α} (h : e.length = 1 ∨ (e = [] ∧ r = [])) : token (92 :: (e ++ r).map f) = bare (Str.ofString "" ++ strOf (e.map f)).cps.toList (r.map f) := by
  have h0 : (Str.ofString "").cps = #[] := by decide +kernel
  rcases h with h | ⟨rfl, rfl⟩
  · obtain ⟨a, rfl⟩ := List.length_eq_one_iff.mp h
    rw [token.eq_def]; rw [Str.cps_append, h0]; simp [isWs, strOf]
  · rw [token.eq_def, bare.eq_def]; rw [Str.cps_append, h0]; simp [isWs, strOf]
theorem token_quote {r : List Nat} : token (34 :: r) = quoted (Str.ofString "").cps.toList r := by
  have h0 : (Str.ofString "").cps = #[] := by decide +kernel
  rw [token.eq_def, h0]; simp [isWs]
theorem quoted_end {acc : List Nat} {r : List Nat} : quoted acc (34 :: r) = (acc, r) := by rw [quoted.eq_def]; simp
theorem quoted_sign {dn : Str} {c : Nat} {r : List Nat} (h : c ≠ 34) (h2 : c ≠ 92) : quoted dn.cps.toList (c :: r) = quoted (dn ++ ⟨#[c]⟩ : Str).cps.toList r := by
  rw [quoted.eq_def]; simp only [h, h2, if_false]; rw [Str.cps_append]; simp
theorem quoted_esc {α : Type _} {f : α → Nat} {dn : Str} {e r : List α} (h : e.length = 1 ∨ (e = [] ∧ r = [])) : quoted dn.cps.toList (92 :: (e ++ r).map f) = quoted (dn ++ strOf (e.map f)).cps.toList (r.map f) := by
  rcases h with h | ⟨rfl, rfl⟩
  · obtain ⟨a, rfl⟩ := List.length_eq_one_iff.mp h
    rw [quoted.eq_def]; rw [Str.cps_append]; simp [strOf]
  · rw [quoted.eq_def, quoted.eq_def]; rw [Str.cps_append]; simp [strOf]
theorem bare_nil {acc : List Nat} : bare acc [] = (acc, []) := by rw [bare.eq_def]
theorem quoted_nil {acc : List Nat} : quoted acc [] = (acc, []) := by rw [quoted.eq_def]
theorem strOf_len (l : List Nat) : (strOf l).length = l.length := by simp [strOf, Str.length]
theorem quoted_end' {acc : List Nat} {c : Nat} {r : List Nat} (h : c = 34) : quoted acc (c :: r) = (acc, r) := by rw [h]; exact quoted_end

-- part pfw

/-! the logic once more, over the stacks that the claim's caller lies in -/
noncomputable def Cal (Γ : PySem.Ctx) : Prop := (Γ.code.isCaller || Γ.below.any fun x => x.1.isCaller) = true
noncomputable def CalB (Γ : PySem.Ctx) : Prop := (Γ.below.any fun x => x.1.isCaller) = true
theorem CalB.cal {Γ : PySem.Ctx} (h : CalB Γ) : Cal Γ := by unfold Cal; rw [show (Γ.below.any fun x => x.1.isCaller) = true from h, Bool.or_true]
theorem Cal.enter {Γ : PySem.Ctx} (h : Cal Γ) (c : Code) (hd : Option Value) (p : Pos) : CalB (Γ.enter c hd p) := by
  show (((Γ.code, p) :: Γ.below).any fun x => x.1.isCaller) = true
  rw [List.any_cons]; exact h

noncomputable def wpP {α : Type} (M : Model) (A : Around) (t : Sem α) (Q : α → Shared → Prop) (E : Value → Shared → Prop) (s : Shared) : Prop :=
  ∀ Γ p, Γ.In A → Cal Γ → Sem.wp M Γ t (fun a _ s' => Q a s') (fun e _ s' => E e s') p s
noncomputable def codeP (M : Model) (A : Around) (c : Code) (R : Result → Shared → Prop) (s : Shared) : Prop :=
  ∀ Γ p, Γ.code = c → Γ.Below A → CalB Γ → wpCode M Γ R p s

section
variable {α β : Type} {M : Model} {A : Around} {E : Value → Shared → Prop} {s : Shared}
theorem wpP_any {t : Sem α} {Q : α → Shared → Prop} (h : wpAny M A t Q E s) : wpP M A t Q E s := fun Γ p hΓ _ => h Γ p hΓ
theorem wpP_mono {t : Sem α} {Q Q' : α → Shared → Prop} {E' : Value → Shared → Prop} (h : wpP M A t Q E s)
    (hQ : ∀ a s, Q a s → Q' a s) (hE : ∀ e s, E e s → E' e s) : wpP M A t Q' E' s :=
  fun Γ p hΓ hc => Sem.wp_mono M Γ t (fun a _ s => hQ a s) (fun e _ s => hE e s) p s (h Γ p hΓ hc)
theorem wpP_bind {m : Sem α} {f : α → Sem β} {Q : β → Shared → Prop} (h : wpP M A m (fun a s' => wpP M A (f a) Q E s') E s) : wpP M A (m >>= f) Q E s := fun Γ p hΓ hc => by
  rw [Sem.wp_bind']
  exact Sem.wp_mono M Γ m (fun a p' s' h' => h' Γ p' hΓ hc) (fun _ _ _ h' => h') p s (h Γ p hΓ hc)
/-- a first part that needs no more than the plain logic -/
theorem wpP_bindA {m : Sem α} {f : α → Sem β} {Q : β → Shared → Prop} (h : wpAny M A m (fun a s' => wpP M A (f a) Q E s') E s) : wpP M A (m >>= f) Q E s := wpP_bind (wpP_any h)
theorem wpP_pure {a : α} {Q : α → Shared → Prop} (h : Q a s) : wpP M A (pure a) Q E s := fun _ _ _ _ => h
theorem wpP_holding {vs : List Value} {m : Sem α} {Q : α → Shared → Prop} (h : wpP M A m Q E s) : wpP M A (holding vs m) Q E s :=
  fun Γ p hΓ hc => by rw [Sem.wp_holding]; exact h Γ p hΓ hc
theorem wpP_keep {vs : List Value} {m : Sem α} {Q : α → Shared → Prop} (h : wpP M A m Q E s) : wpP M A (m.keep vs) Q E s :=
  fun Γ p hΓ hc => by rw [Sem.wp_keep]; exact h Γ p hΓ hc
theorem wpP_onRaise {m : Sem α} {k : Value → Sem Unit} {Q : α → Shared → Prop}
    (h : wpP M A m Q (fun e s' => wpP M A (k e) (fun _ s'' => E e s'') E s') s) : wpP M A (m.onRaise k) Q E s := fun Γ p hΓ hc => by
  rw [Sem.wp_onRaise]
  exact Sem.wp_mono M Γ m (fun _ _ _ h' => h') (fun e p' s' h' => h' Γ p' hΓ hc) p s (h Γ p hΓ hc)
theorem wpP_attempt {m : Sem α} {Q : Except Value α → Shared → Prop} (h : wpP M A m (fun a => Q (.ok a)) (fun e => Q (.error e)) s) :
    wpP M A m.attempt Q E s := fun Γ p hΓ hc => by rw [Sem.wp_attempt]; exact h Γ p hΓ hc
theorem wpP_run {c : Code} {h : Option Value} {Q : Flow → Shared → Prop}
    (hc : codeP M (A.mark h) c (fun r s' => match r with | .ok f => Q f s' | .error e => E e s') s) (hnb : h ≠ some byPass := by intro x; cases x) : wpP M A (run c h) Q E s :=
  fun Γ p hΓ hcal => by rw [Sem.wp_run]; exact hc _ p rfl (hΓ.enter c h p hnb) (hcal.enter c h p)
theorem wpP_runValue {c : Code} {Q : Value → Shared → Prop}
    (hc : codeP M A c (fun r s' => match r with | .ok (.ret v) => Q v s' | .ok _ => False | .error e => E e s') s) : wpP M A (runValue c) Q E s :=
  fun Γ p hΓ hcal => by rw [Sem.wp_runValue]; exact hc _ p rfl (hΓ.enter c none p (by intro x; cases x)) (hcal.enter c none p)
theorem wpP_call {f : Value} {pos : List Value} {kw : List (Str × Value)} {Q : Value → Shared → Prop}
    (hc : codeP M A (.call f ⟨pos, kw⟩) (fun r s' => match r with | .ok (.ret v) => Q v s' | .ok _ => False | .error e => E e s') s) : wpP M A (call f pos kw) Q E s := wpP_runValue hc
theorem codeP_of_tree {c : Code} {R : Result → Shared → Prop}
    (h : wpP M (A.under c) (M.den c) (fun fin s' => match fin with | .done f => R (.ok f) s' | .again c' => c'.quiet = true ∧ codeP M A c' R s')
      (fun e s' => R (.error e) s') s) : codeP M A c R s := fun Γ p hc hΓ hcal => by
  rw [wpCode_iff_wp, hc]
  refine Sem.wp_mono M Γ _ (fun fin p' s' h' => ?_) (fun _ _ _ h' => h') p s (h Γ p (hc ▸ hΓ.in) hcal.cal)
  cases fin with
  | done f => exact h'
  | again c' => exact ⟨h'.1, h'.2 (Γ.goto c') p' rfl (hΓ.goto c') hcal⟩
theorem codeP_mono {c : Code} {R R' : Result → Shared → Prop} (h : codeP M A c R s) (hR : ∀ r s, R r s → R' r s) : codeP M A c R' s :=
  fun Γ p hc hΓ hcal => wpCode_mono hR (h Γ p hc hΓ hcal)
theorem codeP_loop' {c : Code} {R : Result → Shared → Prop} (hq : c.quiet = true) (I : Nat → Shared → Prop)
    (turn : ∀ n s, I n s → wpP M (A.under c) (M.den c)
      (fun fin s' => match fin with
        | .done f => R (.ok f) s'
        | .again c' => (c' = c ∧ ∃ m, m < n ∧ I m s') ∨ (c'.quiet = true ∧ codeP M A c' R s')) (fun e s' => R (.error e) s') s)
    (n : Nat) (h : I n s) : codeP M A c R s := by
  induction n using Nat.strongRecOn generalizing s with
  | ind n ih =>
    refine codeP_of_tree (wpP_mono (turn n s h) (fun fin s' hf => ?_) fun _ _ h' => h')
    cases fin with
    | done f => exact hf
    | again c' =>
      rcases hf with ⟨rfl, m, hm, hI⟩ | hf
      · exact ⟨hq, ih m hm hI⟩
      · exact hf
/-- the stack, and that the caller lies in it -/
theorem wpP_stack {Q : List (Code × Pos) → Shared → Prop} (h : ∀ st : List (Code × Pos), (st.any fun x => x.1.isCaller) = true → Q st s) : wpP M A stack Q E s := fun Γ p _ hc => by
  show Q ((Γ.code, p) :: Γ.below) s
  exact h _ (by rw [List.any_cons]; exact hc)
end
section
variable {prog : Program} {w : World} {A : Around} {E : Value → Shared → Prop} {R : Result → Shared → Prop} {s : Shared}
theorem caller_cal : Cal (⟨.builtin "claim.caller" {}, none, none, [], none⟩ : PySem.Ctx) := by rfl
theorem wp_of_wpP_done {M : Model} {t : Sem Fin} {R : Result → Shared → Prop} {s : Shared}
    (h : wpP M callerA t (fun fin s' => ∃ f, fin = .done f ∧ R (.ok f) s') (fun e s' => R (.error e) s') s) (p : Pos) :
    Sem.wp M ⟨.builtin "claim.caller" {}, none, none, [], none⟩ t (Sem.finPost M ⟨.builtin "claim.caller" {}, none, none, [], none⟩ R) (fun e _ s' => R (.error e) s') p s := by
  refine Sem.wp_mono M _ t (fun fin p' s' h' => ?_) (fun _ _ _ h' => h') p s (h _ p caller_in caller_cal)
  obtain ⟨f, rfl, hf⟩ := h'
  exact hf
theorem thread_ends_P {t : Sem Fin} {R : Result → Shared → Prop} (hreg : s.asleep)
    (h : wpP (model prog w) callerA t (fun fin s' => ∃ f, fin = .done f ∧ (R (.ok f) s' ∧ leftWithCleanup s'.gens = false)) (fun e s' => R (.error e) s' ∧ leftWithCleanup s'.gens = false) s) :
    ∃ n r s' s'', runN (denote table) prog w n s ⟨t, .builtin "claim.caller" {}, default, []⟩ = .halted (outcomeOf r) s' ∧
      schedN (denote table) prog w n (.single s ⟨t, .builtin "claim.caller" {}, default, []⟩) = .halted (outcomeOf r) s' ∧ s'.forget = s''.forget ∧ R r s'' := by
  obtain ⟨n, r, s₁, s₂, hs, hn, hfo, hR⟩ := wp_halts_full (M := model prog w) (R := R) hreg (wp_of_wpP_done (R := fun r s' => R r s' ∧ leftWithCleanup s'.gens = false) h default)
  exact ⟨n, r, s₂, s₁, hn, hs, hfo, hR⟩
end

-- part phead

section
variable {G : Prop}
theorem ex2a2 {α β : Type} {A B : α → β → Prop} (h : ∃ a b, A a b ∧ B a b) (k : ∀ a b, A a b → B a b → G) : G := by obtain ⟨a, b, x, y⟩ := h; exact k a b x y
theorem ex4a4 {α β γ δ : Type} {A B C D : α → β → γ → δ → Prop} (h : ∃ a b c d, A a b c d ∧ B a b c d ∧ C a b c d ∧ D a b c d) (k : ∀ a b c d, A a b c d → B a b c d → C a b c d → D a b c d → G) : G := by obtain ⟨a, b, c, d, x, y, z, t⟩ := h; exact k a b c d x y z t
theorem ex1a3 {α : Type} {A B C : α → Prop} (h : ∃ a, A a ∧ B a ∧ C a) (k : ∀ a, A a → B a → C a → G) : G := by obtain ⟨a, x, y, z⟩ := h; exact k a x y z
theorem ex7a5 {α β γ δ ε ζ η : Type} {A B C D E : α → β → γ → δ → ε → ζ → η → Prop} (h : ∃ a b c d e f g, A a b c d e f g ∧ B a b c d e f g ∧ C a b c d e f g ∧ D a b c d e f g ∧ E a b c d e f g)
    (k : ∀ a b c d e f g, A a b c d e f g → B a b c d e f g → C a b c d e f g → D a b c d e f g → E a b c d e f g → G) : G := by obtain ⟨a, b, c, d, e, f, g, x, y, z, t, u⟩ := h; exact k a b c d e f g x y z t u
theorem ex11a {α β : Type} {A B : α → Prop} {C D E F H I : α → β → Prop} (h : ∃ a, A a ∧ B a ∧ ∃ b, C a b ∧ D a b ∧ E a b ∧ F a b ∧ H a b ∧ I a b) (k : ∀ a, A a → B a → ∀ b, C a b → D a b → E a b → F a b → H a b → I a b → G) : G := by
  obtain ⟨a, x, y, b, z, t, u, v, p, q⟩ := h; exact k a x y b z t u v p q
end
/-! the claim out of a run of the law in the logic above: the library's own road asks for every stack -/
theorem callFrom_P {c : ClaimW} {tree : List Value → Sem Fin} {w : World} {s : Shared} {free : Addr → Prop} {gens : Prop} {kept : Heap → Prop} (asleep : s.asleep) (noGens : s.gens = #[])
    (spec : ∀ args, c.pre args = true → WData.layableAll args = true → ∀ ord : List DictEntry → List DictEntry, (∀ l, (ord l).Perm l) →
      ∃ vs s₁, layAllW c.records (classAt s.heap) w.params ord args s = some (vs, s₁) ∧
        wpP (model c.prog w) callerA (tree vs) (fun fin s' => ∃ f, fin = .done f ∧ (c.Ends s args vs s₁ (.ok f) s' ∧ s'.os = s.os ∧ AllBare s'.gens ∧ kept s'.heap))
          (fun e s' => c.Ends s args vs s₁ (.error e) s' ∧ s'.os = s.os ∧ AllBare s'.gens ∧ kept s'.heap) s₁) :
    c.CallFrom (fun vs => ⟨tree vs, .builtin "claim.caller" {}, default, []⟩) w free gens kept s := by
  intro args hpre hlay ord hord
  refine ex2a2 (spec args hpre hlay ord hord) fun vs s₁ laid ran => ?_
  clear spec
  have rest := layAllW_rest _ _ _ laid
  have ran' := wpP_mono (Q' := fun fin s' => ∃ f, fin = .done f ∧ ((c.Ends s args vs s₁ (.ok f) s' ∧ s'.os = s.os ∧ kept s'.heap) ∧ leftWithCleanup s'.gens = false))
    (E' := fun e s' => (c.Ends s args vs s₁ (.error e) s' ∧ s'.os = s.os ∧ kept s'.heap) ∧ leftWithCleanup s'.gens = false) ran
    (fun fin s' h => h.imp fun f h => ⟨h.1, ⟨h.2.1, h.2.2.1, h.2.2.2.2⟩, leftWithCleanup_false_of_bare h.2.2.2.1⟩) (fun e s' h => ⟨⟨h.1, h.2.1, h.2.2.2⟩, leftWithCleanup_false_of_bare h.2.2.1⟩)
  refine ex4a4 (thread_ends_P (R := fun r s' => c.Ends s args vs s₁ r s' ∧ s'.os = s.os ∧ kept s'.heap) (Shared.asleep_of_life rest.2.2.2 asleep) ran') fun k r s' s'' run sched same h => ?_
  clear ran ran'
  have eqs := Shared.forget_eq same
  have life : s'.heap.life = s.heap.life := (runN_life _ _ _ run).trans rest.2.2.2
  exact ⟨vs, s₁, laid, k, _, s', sched, (h.1.congr eqs.1).imp (Exists.imp fun v h => ⟨congrArg outcomeOf h.1, h.2.1, h.2.2.1, h.2.2.2.1, fun b o y _ => h.2.2.2.2.1 b o y, h.2.2.2.2.2⟩) (Exists.imp fun e h => h.imp fun ob h => h.imp fun cls h => ⟨congrArg outcomeOf h.1, h.2.1, h.2.2.1, h.2.2.2.1, h.2.2.2.2.1, fun b o y _ => h.2.2.2.2.2 b o y⟩),
    (fun _ i x hx => by rw [noGens] at hx; simp at hx), eqs.1 ▸ h.2.2, by rw [life], Shared.rest_eq (eqs.2.2.2.1.trans h.2.1)⟩

/-- what is to be walked -/
noncomputable abbrev WalkP (q : Program) (loose : List Str) (XP : (Str → Option Value) → Heap → Prop) (YP : World → Heap → Prop) (r : RowW) (d : DefRec) (kwd : List (Str × Expr)) : Prop :=
  ∀ (w : World) (s₀ s₁ : Shared) (mg mb : Str → Option Value), Ground q loose r.records XP w s₀ mg mb s₁.heap → YP w s₁.heap → ∀ (a : Addr) (o : Obj) (pm cd doc dV kV : Value), s₁.heap.get? a = some o →
    o.data = .func { docDef d.name d.params d.body d.scope pm cd doc with defaults := dV, kwdefaults := kV } → s₁.heap.CodeRec cd d.name → Dflts mg s₁.heap d.params kwd dV kV → mg d.name = some (.ref a) → s₁.gens = #[] →
    ∀ (args : List WData) (vals : List Value) (as : List Addr), r.claim.pre args = true → WData.layableAll args = true → ReadsAllW r.records (classAt s₀.heap) s₁.heap vals args as → WellAll w.params s₁.heap vals args → (∀ a ∈ as, (a == sysModules) = false) →
      wpP (model r.prog w) callerA (PySem.call (.ref a) vals) (fun v s' => GoodWG r.claim (classAt s₀.heap) (ExcName.means s₀.heap) args s₁ (.ok (.ret v)) s')
        (fun e s' => GoodWG r.claim (classAt s₀.heap) (ExcName.means s₀.heap) args s₁ (.error e) s') s₁

theorem PySem.W.holds_open {r : OpenRow} {q : Program} {loose : List Str} {Xt : Shared → Bool} {XP : (Str → Option Value) → Heap → Prop} {α : Type} {Yf : Shared → α} {Ya : World → α} {YP : World → Heap → Prop} {d : DefRec} {kwd : List (Str × Expr)} {N : Nat}
    (left : LeftO r.prog q loose Xt Yf Ya N) (hY : ∀ w s, Yf s = Ya w → YP w s.heap) (hYk : ∀ w h h', YP w h → (∀ b o, h.get? b = some o → h'.get? b = some o) → YP w h')
    (hX : ∀ s, Xt s = true → XP (s.heap.nsMap mainGlobals) s.heap) (hXk : ∀ mg h h', XP mg h → (∀ b o, h.get? b = some o → h'.get? b = some o) → XP mg h')
    (hdef : defOf q r.name = some (d, kwd)) (hp : r.prog.theDef r.name = some (d.params, d.body, d.scope)) (hk : kwWritten? d.params.kwonlyargs d.params.kw_defaults = some kwd) (hRf : ∀ s, Xt s = true → RecFacts r.records s.heap) (hwr : (!r.writes || r.records.isEmpty) = true)
    (k1 : r.wellSaid = true) (ok : (chainsOk q && opensWell r.prog && (frees r.toRowW && r.within.isEmpty)) = true) (hb : r.prog.bare) (hw : r.toRowW.promised)
    (call : WalkP q loose XP YP r.toRowW d kwd) : r.Holds := by
  have oks := Bool.and_eq_true_iff.mp ok
  have hch := (Bool.and_eq_true_iff.mp oks.1).1
  have o1 := (Bool.and_eq_true_iff.mp oks.1).2
  have kf := Bool.and_eq_true_iff.mp oks.2
  have fp := frees_parts kf.1
  refine ⟨k1, hw, ⟨hb, o1, by show r.toRowW.makers.map _ = []; rw [fp.2.2.2.2]; rfl⟩, hw.witness, fun w => ⟨(left.behind hX hch w).1, fun s' hs' => ?_⟩⟩
  refine ex11a ((left.behind (XP := fun mg h => XP mg h ∧ RecFacts r.toRowW.records h) (fun s hs => ⟨hX s hs, hRf s hs⟩) hch w).2 s' hs') fun s₀ hf hg0 s hT hz hgens hg G00 y => ?_
  have G0 : Ground q loose [] XP w s (s.heap.nsMap mainGlobals) (s.heap.nsMap builtinsNs) s.heap := ⟨G00.T, G00.B, G00.D, G00.TE, G00.TD, G00.W, G00.X.1, G00.cls, G00.has, G00.apart, G00.once, G00.K⟩
  have RF := G00.X.2
  refine ⟨s₀, hf, hg0, s, hT, fun n hn => ?_, RF.1, RF.2.1, ?_⟩
  · obtain rfl : n = r.name := by split at hn <;> simp_all
    exact pinned_of_view hg G0 hdef hp hk
  have hgens : s.gens = #[] := Array.eq_empty_of_size_eq_zero (beq_iff_eq.mp hgens)
  have G : Ground q loose r.toRowW.records XP w s _ _ s.heap := RF.ground G0
  clear RF G00 G0 left hX hRf
  refine callFrom_P (c := r.toRowW.claim) (tree := fun vs => do match ← nsGet mainNs r.name with
      | some f => do ret (← PySem.call f vs)
      | none => unsupported "claim.caller:no-such-global") hz hgens fun args hpre hlay ord hord => ?_
  refine (Option.isSome_iff_exists.mp (layAllW_isSome (P := w.params) (ord := ord) G.has args r.toRowW.args s (pre_splitW hpre).1)).elim fun vss hlaid => ?_
  rcases vss with ⟨vs, s₁⟩
  have keeps := layAllW_keeps _ _ _ hlaid
  have hal := layAllW_rest _ _ _ hlaid
  refine ex1a3 (reads_layAllW hord _ _ _ hlaid hlay s₁.heap (fun _ _ e => e)) fun as hrd hin hold => ?_
  have L : Laid r.toRowW.records w s s₁ args vs as := ⟨⟨ord, hord, hlaid⟩, hrd, hin, hold, keeps, hal.1.trans hgens, hal.2.2.1⟩
  have G₁ := G.keeps hXk keeps
  refine ex7a5 (G₁.fn hdef) fun a o pm cd doc dV kV h1 h2 h3 h4 h5 => ?_
  have h := call w s s₁ _ _ G₁ (hYk _ _ _ (hY w s y) keeps) a o pm cd doc dV kV h2 h3 h4 h5 (defOf_name hdef ▸ h1) L.gens args vs as hpre hlay L.reads L.well (L.low G.low)
  have hi := ident_freeW fp.2.1 fp.2.2.1 fp.2.2.2.1
  have hwi : r.toRowW.claim.within = [] := List.isEmpty_iff.mp kf.2
  have fin : ∀ {r'} {s' : Shared}, GoodWG r.toRowW.claim _ _ args s₁ r' s' → _ := fun g => g.laid (c := r.toRowW.claim) fp.1 hwi hi L
  refine ⟨vs, s₁, hlaid, wpP_bindA (wpAny_nsGet G₁.T.g ?_)⟩
  rw [h1]
  exact wpP_bind (wpP_mono h (fun v s' g => wpP_pure ⟨_, rfl, (fin g).1, (fin g).2.1, (fin g).2.2, fun q => ⟨namesKept_of hT hg r.keeps keeps g.2.1.old, noTable hwr q⟩⟩) fun e s' g => ⟨(fin g).1, (fin g).2.1, (fin g).2.2, fun q => ⟨namesKept_of hT hg r.keeps keeps g.2.1.old, noTable hwr q⟩⟩)

-- part pint

theorem wpP_ite_false {α : Type} {M : Model} {A : Around} {E : Value → Shared → Prop} {s : Shared} {c : Prop} [Decidable c] {a b : Sem α} {Q : α → Shared → Prop} (hc : ¬ c) (h : wpP M A b Q E s) : wpP M A (if c then a else b) Q E s := by rw [if_neg hc]; exact h
theorem wpP_ite_true {α : Type} {M : Model} {A : Around} {E : Value → Shared → Prop} {s : Shared} {c : Prop} [Decidable c] {a b : Sem α} {Q : α → Shared → Prop} (hc : c) (h : wpP M A a Q E s) : wpP M A (if c then a else b) Q E s := by rw [if_pos hc]; exact h
theorem codeP_builtin {prog : Program} {w : World} {A : Around} {R : Result → Shared → Prop} {s : Shared} {id : String} {args : Args} {b : Builtin} (hb : entryFor table id = some b)
    (h : wpP (model prog w) (A.under (.builtin id args)) (b args)
      (fun fin s' => match fin with | .done f => R (.ok f) s' | .again c' => c'.quiet = true ∧ codeP (model prog w) A c' R s') (fun e s' => R (.error e) s') s) :
    codeP (model prog w) A (.builtin id args) R s := by
  refine codeP_of_tree ?_
  show wpP _ _ (match entryFor table id with | some b => b args | none => unsupported ((withoutEnding? id "#data").getD id)) _ _ s
  rw [hb]; exact h
theorem codeP_call_builtin {prog : Program} {w : World} {A : Around} {R : Result → Shared → Prop} {s : Shared} {id : String} {args : Args} {b : Builtin} (hq : plainId id = true) (hb : entryFor table id = some b)
    (hck : checkBuiltinCall id args = pure ())
    (h : wpP (model prog w) A.in1 (b args)
      (fun fin s' => match fin with | .done f => R (.ok f) s' | .again c' => c'.quiet = true ∧ codeP (model prog w) A c' R s') (fun e s' => R (.error e) s') s) :
    codeP (model prog w) A (.call (.builtin id) args) R s := by
  refine codeP_of_tree ?_
  show wpP _ A.in1 (do checkBuiltinCall id args; again (.builtin id args)) _ _ s
  refine wpP_bindA (wpAny_of_eq hck (wpP_pure (And.intro (plainId_quiet hq args) (codeP_builtin hb ?_))))
  rw [Around.under_plainId hq args]; exact h
theorem caller_made {own : List String} {st : List (Code × Pos)} (h : (st.any fun x => x.1.isCaller) = true) : pythonCodeMadeTheCall own (st.map (·.1)) = false := by
  obtain ⟨⟨c, p⟩, hx, hc⟩ := List.any_eq_true.mp h
  have hm : c ∈ st.map (·.1) := List.mem_map.mpr ⟨_, hx, rfl⟩
  unfold pythonCodeMadeTheCall
  refine Bool.and_eq_false_iff.mpr (.inl (Bool.and_eq_false_iff.mpr (.inl ?_)))
  refine (congrArg (!·) (List.any_eq_true.mpr ⟨c, hm, ?_⟩)).trans rfl
  exact hc
/-- a refusal that is marked in no claim's run -/
theorem mark_P {M : Model} {A : Around} {E : Value → Shared → Prop} {s : Shared} {own : List String} {e : Value} {Q : Unit → Shared → Prop} (h : Q () s) : wpP M A (markTheRefusal own e) Q E s := by
  unfold markTheRefusal
  refine wpP_bind (wpP_stack fun st hst => ?_)
  rw [caller_made hst]
  exact wpP_pure h

-- part pint2
set_option maxHeartbeats 4000000 in
theorem int_bad_text {prog : Program} {w : World} {A : Around} {E : Value → Shared → Prop} {s : Shared} {Q : Value → Shared → Prop} {x : Str} {u : Tok} (hh : A.handled = none) (hl : x.length ≤ 640) (hn : PySem.intText? x = none) (hrp : (reprText x).length ≤ sizeLine)
    (h : ∀ h' tk' e, Heap.NewExc s.heap h' e "ValueError" → E (.ref e) { s with heap := h', toks := tk' }) :
    wpP (model prog w) A ((int_private% "intFromText") (.str x u) (numTextOf x) 10) Q E s := by
  have hs : (numSeenOf x).length ≤ 640 := Nat.le_trans (seen_length x) hl
  have hk := read0 x hs
  rw [hn] at hk
  refine wpP_ite_true hs ?_
  refine wpP_bindA (wpAny_pure ?_)
  have tail : ∀ s₀ : Shared, s₀.heap = s.heap → (∃ tk, s₀ = { s with toks := tk }) → ∀ shown : Str, shown.length ≤ sizeLine → wpP (model prog w) A (do
      let x ← mkStr (Str.ofString (toString "invalid literal for int() with base " ++ toString 10 ++ toString ": ") ++ { cps := shown.cps.extract 0 200 })
      let refusal ← newExc (Value.type "ValueError") [x]
      markTheRefusal ["int.__new__"] refusal
      raiseNew refusal) Q E s₀ := by
    rintro s₀ - ⟨tk, rfl⟩ shown hsh
    refine wpP_bindA ?_
    refine wpAny_mkStr ?_ (hx := ?_)
    rotate_left
    · show (_ ++ _ : Array Nat).size ≤ _
      rw [Array.size_append]
      have h1 : (shown.cps.extract 0 200).size ≤ 200 := by rw [Array.size_extract]; omega
      have h2 : (Str.ofString (toString "invalid literal for int() with base " ++ toString 10 ++ toString ": ")).cps.size = 40 := by decide +kernel
      have h3 : sizeLine = 16777216 := by decide +kernel
      show _ + (shown.cps.extract 0 200).size ≤ _
      omega
    refine wpP_bindA (wpAny_newExc_plain plainExc_ValueError (fun h' e hm => ?_) (by show 1 ≤ sizeLine; decide +kernel))
    refine wpP_bind (mark_P ?_)
    refine wpP_any (wpAny_raiseNew_none hh ?_)
    exact h _ _ _ hm.newExc
  have jp : wpP (model prog w) A (do
          rule "int.__new__.invalid-literal"
          let b? ← (int_private% "bytesOf?") (Value.str x u)
          match b? with
            | some b => do
              let b' ← mkBytes (b.extract 0 200)
              let shown ← pyRepr b'
              let x ← mkStr (Str.ofString (toString "invalid literal for int() with base " ++ toString 10 ++ toString ": ") ++ { cps := shown.cps.extract 0 200 })
              let refusal ← newExc (Value.type "ValueError") [x]
              markTheRefusal ["int.__new__"] refusal
              raiseNew refusal
            | none => do
              let shown ← pyRepr (Value.str x u)
              let x ← mkStr (Str.ofString (toString "invalid literal for int() with base " ++ toString 10 ++ toString ": ") ++ { cps := shown.cps.extract 0 200 })
              let refusal ← newExc (Value.type "ValueError") [x]
              markTheRefusal ["int.__new__"] refusal
              raiseNew refusal) Q E s := by
    refine wpP_bindA (wpAny_rule ?_)
    refine wpP_bindA (wpAny_of_eq (a := none) rfl ?_)
    dsimp only
    refine wpP_bindA (wpAny_pyRepr_str ?_ hrp)
    exact tail { s with toks := s.toks + 1 } rfl ⟨s.toks + 1, rfl⟩ _ hrp
  have sn : List.takeWhile (fun x => x != 0) (numTextOf x) = numSeenOf x := rfl
  rw [sn]
  dsimp only
  rcases hk with ⟨n, hk, _⟩ | ⟨_, hk | ⟨i, hk, hk2⟩⟩
  · cases hk
  · rw [hk]
    refine wpP_bindA (wpAny_of_eq (a := none) rfl ?_)
    exact jp
  · rw [hk]
    exact wpP_ite_false hk2 jp

-- part pint3
set_option maxHeartbeats 4000000 in
theorem int_bad_new {prog : Program} {w : World} {A : Around} {E : Value → Shared → Prop} {s : Shared} {Q : Fin → Shared → Prop} {x : Str} {u : Tok} (hh : A.handled = none) (hl : x.length ≤ 640) (hn : PySem.intText? x = none) (hrp : (reprText x).length ≤ sizeLine)
    (h : ∀ h' tk' e, Heap.NewExc s.heap h' e "ValueError" → E (.ref e) { s with heap := h', toks := tk' }) :
    wpP (model prog w) A (Builtin.«int.__new__» ⟨[.type "int", .str x u], []⟩) Q E s := by
  obtain ⟨hp, g, d, tk, os⟩ := s
  have f1 := F.conv_sub_int
  have f2 := F.madeHere_int
  have f3 := KIN.str_int
  have f4 := KIN.str_idx
  have f5 := KIN.str_trunc
  have f6 : typeOf (.str x u) = pure (.type "str") := rfl
  delta Builtin.«int.__new__»
  dsimp only
  repeat (any_goals (first
      | assumption
      | (with_reducible refine wpP_bindA ?_)
      | (refine wpP_ite_false (fun hf => Bool.noConfusion (show false = true from hf)) ?_)
      | (refine wpP_ite_false (show ¬ (1 + 0 > 2) by decide) ?_)
      | wp_step))
  show wpP _ _ ((int_private% "intFromObject") (.str x u) >>= _) _ _ _
  refine wpP_bind ?_
  show wpP _ _ (PySem.callSpecial? (.str x u) (Str.ofString "__int__") >>= _) _ _ _
  repeat (any_goals (first
      | assumption
      | (with_reducible refine wpP_bindA ?_)
      | (refine wpP_ite_false (fun hf => Bool.noConfusion (show false = true from hf)) ?_)
      | wp_step))
  exact int_bad_text hh hl hn hrp h
set_option maxHeartbeats 4000000 in
theorem int_bad {prog : Program} {w : World} {A : Around} {E : Value → Shared → Prop} {s : Shared} {Q : Value → Shared → Prop} {x : Str} {u : Tok} (hh : A.handled = none) (hl : x.length ≤ 640) (hn : PySem.intText? x = none) (hrp : (reprText x).length ≤ sizeLine)
    (h : ∀ h' tk' e, Heap.NewExc s.heap h' e "ValueError" → E (.ref e) { s with heap := h', toks := tk' }) :
    wpP (model prog w) A (call (.type "int") [.str x u]) Q E s := by
  have ft := F.called_int
  have hct := F.typeCall_int_1 (.str x u)
  obtain ⟨c, tl, hmro⟩ := ft.mro
  have hmade := ft.made
  have hsub := ft.sub
  refine wpP_call (codeP_of_tree ?_)
  show wpP _ _ (callAny (.type "int") _) _ _ _
  refine wpP_pure ⟨Code.quiet_builtin _ (by decide +kernel), codeP_builtin F.entry_type_call ?_⟩
  rw [Around.under_plain (weight_type_call_type "int" _ []) (units_type_call_type "int" _ [])]
  have h1 := ft.notType
  have h2 := ft.canCreate
  delta Builtin.«type.__call__»
  dsimp only
  repeat (any_goals (first
      | assumption
      | (with_reducible refine wpP_bind (wpP_holding (wpP_call ?_)))
      | (with_reducible refine wpP_bindA ?_)
      | (refine wpP_ite_false (fun hf => Bool.noConfusion (show false = true from hf)) ?_)
      | (refine wpP_ite_false (by rw [h1]; exact Bool.false_ne_true) ?_)
      | (refine wpP_ite_false (by rw [h2]; exact Bool.false_ne_true) ?_)
      | wp_step))
  refine codeP_call_builtin F.called_int.plain F.entry_int_new (F.newCall_int_1 _) ?_
  exact int_bad_new hh hl hn hrp h

-- part prules

noncomputable def FnAnd (h : Heap) (a : Addr) (P : Prop) : Prop := (∃ o fd, h.get? a = some o ∧ o.data = .func fd) ∧ P

/-! the rules of the statements over the stacks that the claim's caller lies in -/
section
variable {M : Model} {A : Around} {E : Value → Shared → Prop} {s : Shared} {env : Env}
theorem wpP_standAt {α : Type} {pos : Pos} {f : Unit → Sem α} {Q : α → Shared → Prop} (h : wpP M A (f ()) Q E s) : wpP M A (standAt pos >>= f) Q E s := wpP_bindA (wpAny_standAt h)
theorem wpP_execs_cons {st rest} {Q : Flow → Shared → Prop}
    (h : wpP M A (exec st env) (fun f s' => match f with | .next => wpP M A (execs rest env) Q E s' | f => Q f s') E s) : wpP M A (execs (st :: rest) env) Q E s := by
  rw [execs_cons]
  refine wpP_bind (wpP_mono h (fun f s' h' => ?_) fun _ _ x => x)
  cases f <;> first | exact h' | exact wpP_pure h'
theorem wpP_Return {e pos} {Q : Flow → Shared → Prop} (h : wpP M A (eval e env) (fun v => Q (.ret v)) E s) : wpP M A (exec (.Return (some e) pos) env) Q E s := by
  rw [exec_Return_some]
  exact wpP_standAt (wpP_bind (wpP_mono h (fun v s' h' => wpP_pure h') fun _ _ x => x))
theorem wpP_Assign {x pos' value pos} {Q : Flow → Shared → Prop}
    (h : wpP M A (eval value env) (fun v s₁ => wpAny M A (storeName env x v) (fun _ => Q .next) E s₁) E s)
    (hs : swapsWith value (some (.Name x pos')) pos.line env = pure false := by rfl) : wpP M A (exec (.Assign [.Name x pos'] value pos) env) Q E s := fun Γ p hΓ hc => by
  simp only [exec_Assign_Name env x pos' value pos hs, Sem.wp_bind', Sem.wp_cmd_standAt, Sem.wp_bindName, Sem.wp_pure']
  exact Sem.wp_mono M Γ _ (fun v _ s₁ h₁ => h₁ Γ _ hΓ) (fun _ _ _ h' => h') _ _ (h Γ _ hΓ hc)
theorem wpP_Call {x : Str} {np pos : Pos} {args : List Expr} {Q : Value → Shared → Prop}
    (h : wpAny M A (eval (.Name x np) env) (fun f s₁ => wpP M A (callWith pos f [] (backTo pos (starEach args env)) []) Q E s₁) E s) :
    wpP M A (eval (.Call (.Name x np) args [] pos) env) Q E s := by
  show wpP M A (do callWith pos (← eval (.Name x np) env) [] (backTo pos (starEach args env)) []) Q E s
  exact wpP_bindA h
theorem wpP_callWith_fn {pos : Pos} {a : Addr} {first : List Value} {args : List (Bool × Sem Value)} {Q : Value → Shared → Prop}
    (h : wpAny M A (evalArgs (.ref a) true args []) (fun x s₁ => FnAnd s₁.heap a (wpP M A (call (.ref a) (first ++ x.pos) x.kw) Q E s₁)) E s)
    (hplain : args.any (·.1) = false := by rfl) :
    wpP M A (callWith pos (.ref a) first args []) Q E s := by
  unfold callWith
  refine wpP_bindA (wpAny_holding (wpAny_mono h (fun x s₁ h₁ => wpP_standAt ?_) fun _ _ x => x))
  rw [hplain]
  obtain ⟨⟨o, fd, ho, hd⟩, h₂⟩ := h₁
  refine wpP_bindA (m := keeperOf (.ref a)) ?_
  unfold keeperOf
  refine wpAny_bind (wpAny_load ho ?_)
  rw [hd]
  refine wpAny_pure ?_
  have tail : ∀ {t : Sem Value}, wpP M A t Q E s₁ → wpP M A (t >>= fun r => holding [r] point >>= fun _ => pure r) Q E s₁ :=
    fun ht => wpP_bind (wpP_mono ht (fun r s₂ hr => wpP_any (wpAny_bind (wpAny_holding (wpAny_point (wpAny_pure hr))))) fun _ _ x => x)
  show wpP M A (if args.length + 2 * [].length > 30 then _ else _) Q E s₁
  split
  · exact tail h₂
  · exact tail (by unfold callMarked; exact wpP_keep h₂)
theorem wpP_callWith_type {pos : Pos} {T : String} {first : List Value} {args : List (Bool × Sem Value)} {Q : Value → Shared → Prop}
    (h : wpAny M A (evalArgs (.type T) true args []) (fun a s₁ => wpP M A (call (.type T) (first ++ a.pos) a.kw) Q E s₁) E s)
    (hplain : args.any (·.1) = false := by rfl) :
    wpP M A (callWith pos (.type T) first args []) Q E s := by
  unfold callWith
  refine wpP_bindA (wpAny_holding (wpAny_mono h (fun a s₁ h₁ => wpP_standAt ?_) fun _ _ x => x))
  rw [hplain]
  refine wpP_bindA (wpAny_pure ?_)
  exact wpP_bind (wpP_mono h₁ (fun r s₂ hr => wpP_any (wpAny_bind (wpAny_holding (wpAny_point (wpAny_pure hr))))) fun _ _ x => x)
theorem wpP_spliced_nil {Q : List Value → Shared → Prop} {pos : Pos} (h : Q [] s) : wpP M A (spliced (backTo pos (starEach [] env))) Q E s := wpP_any (Calls.spliced_nil h)
theorem wpP_spliced_more {e : Expr} {rest : List Expr} {pos : Pos} {Q : List Value → Shared → Prop}
    (h : wpP M A (eval e env) (fun v s₁ => wpP M A (spliced (backTo pos (starEach rest env))) (fun vs s₂ => Q (v :: vs) s₂) E s₁) E s)
    (he : starEach (e :: rest) env = (false, eval e env) :: starEach rest env := by rfl) : wpP M A (spliced (backTo pos (starEach (e :: rest) env))) Q E s := by
  rw [he]
  show wpP M A (spliced ((false, eval e env) :: backTo pos (starEach rest env))) Q E s
  rw [spliced]
  refine wpP_bind (wpP_mono h (fun v s₁ h₁ => ?_) fun _ _ x => x)
  rw [if_neg Bool.false_ne_true]
  exact wpP_bindA (wpAny_pure (wpP_bind (wpP_holding (wpP_mono h₁ (fun vs s₂ h₂ => wpP_pure h₂) fun _ _ x => x))))
theorem wpP_Try {body orelse : List Stmt} {h₀ : ExceptHandler} {hs : List ExceptHandler} {pos : Pos} {Q : Flow → Shared → Prop}
    (h : wpP M A (execs body env) (fun f s₁ => match f with | .next => wpP M A (execs orelse env) Q E s₁ | f => Q f s₁)
      (fun e s₁ => wpAny M A (noteFrame e env) (fun _ s₂ => wpAny M A (setFlight e none) (fun _ s₃ => wpAny M A (handleBy e env (h₀ :: hs)) Q E s₃) E s₂) E s₁) s) :
    wpP M A (exec (.Try body (h₀ :: hs) orelse [] pos) env) Q E s := by
  rw [arm_exec_Try]
  refine wpP_standAt ?_
  unfold tryStmt
  refine wpP_bind (wpP_attempt (wpP_mono h (fun f s₁ h₁ => ?_) fun e s₁ h₁ => ?_))
  · cases f <;> first | exact h₁ | exact wpP_pure h₁
  · exact wpP_any (wpAny_bind (wpAny_mono h₁ (fun _ _ h₂ => wpAny_bind h₂) fun _ _ x => x))
theorem wpP_noted {α : Type} {m : Sem α} {Q : α → Shared → Prop} (h : wpP M A m Q (notedBy M A env E) s) : wpP M A (m.onRaise fun x => do noteFrame x env; theTreesLotGoes x) Q E s :=
  wpP_onRaise (wpP_mono h (fun _ _ q => q) fun _ _ hx => wpP_any (wpAny_bind (wpAny_mono hx (fun _ _ e => wpAny_theTreesLotGoes e) fun _ _ e => e)))
theorem wpP_runOwn {c : Code} {Q : Flow → Shared → Prop}
    (hc : codeP M A c (fun r s' => match r with | .ok f => Q f s' | .error e => cameBackBy M A env E e s') s) : wpP M A (runOwn c env none) Q E s := by
  unfold runOwn
  refine wpP_onRaise (wpP_run (by rw [Around.mark_none]; exact codeP_mono hc fun r s' h' => by cases r with | ok f => exact h' | error e => exact wpP_any h') (by intro x; cases x))
theorem wpP_While {test body orelse pos} {Q : Flow → Shared → Prop}
    (h : codeP M A (.whileLoop test body orelse env) (fun r s' => match r with | .ok f => Q f s' | .error e => cameBackBy M A env E e s') s) :
    wpP M A (exec (.While test body orelse pos) env) Q E s := by
  rw [exec_While]; exact wpP_standAt (wpP_runOwn h)
end
section
variable {prog : Program} {w : World} {A : Around} {E : Value → Shared → Prop} {R : Result → Shared → Prop} {s : Shared} {env : Env}
theorem codeP_whileLoop {test body env} (I : Nat → Shared → Prop)
    (turn : ∀ n s, I n s →
      wpAny (model prog w) A (isTrue test env (eval test env)) (fun b s₂ =>
        if b then wpP (model prog w) A (execs body env) (fun f s₃ => match f with
            | .next | .cont => ∃ m, m < n ∧ I m s₃
            | .brk => R (.ok .next) s₃
            | .ret v => R (.ok (.ret v)) s₃) noE s₂
        else R (.ok .next) s₂) noE s)
    (n : Nat) (h : I n s) : codeP (model prog w) A (.whileLoop test body [] env) R s := by
  refine codeP_loop' rfl I (fun n s hI => ?_) n h
  show wpP _ A ((whileTurn test body [] env).onRaise (fun x => do noteFrame x env; theTreesLotGoes x)) _ _ s
  refine wpP_noted ?_
  unfold whileTurn
  refine wpP_bindA (wpAny_mono (turn n s hI) (fun b s₂ h₂ => ?_) fun _ _ h' => h'.elim)
  cases b with
  | false =>
    rw [if_neg Bool.false_ne_true] at h₂ ⊢
    exact wpP_any (wpAny_bind (wpAny_execs_nil (wpAny_pure h₂)))
  | true =>
    rw [if_pos rfl] at h₂ ⊢
    refine wpP_bind (wpP_mono h₂ (fun f s₃ h₃ => ?_) fun _ _ h' => h'.elim)
    cases f with
    | next => exact wpP_pure (.inl ⟨rfl, h₃⟩)
    | cont => exact wpP_pure (.inl ⟨rfl, h₃⟩)
    | brk => exact wpP_pure h₃
    | ret v => exact wpP_pure h₃
end

-- part pctr

/-! contracts over the stacks that the claim's caller lies in -/
section
variable {prog : Program} {w : World} {A : Around} {E : Value → Shared → Prop} {R : Result → Shared → Prop} {s : Shared}
theorem codeP_func {body : List Stmt} {env : Env}
    (h : wpP (model prog w) (A.deeper env) (execs body env) (fun f s' => R (.ok (.ret (match f with | .ret v => v | _ => .none))) s')
      (fun e s' => wpAny (model prog w) (A.deeper env) (leaving env e) (fun _ s'' => R (.error e) s'') (fun e' s'' => R (.error e') s'') s') s) :
    codeP (model prog w) A (.func body env) R s := by
  refine codeP_of_tree ?_
  show wpP _ (A.deeper env) (do point; match ← (execs body env).onRaise (leaving env) with | .ret v => ret v | _ => ret .none) _ _ s
  refine wpP_bindA (wpAny_point (wpP_bind (wpP_onRaise (wpP_mono h (fun f s' h' => ?_) fun _ _ h' => wpP_any h'))))
  cases f <;> exact wpP_pure h'
theorem codeP_call_def {a : Addr} {o : Obj} {fd : FuncData} {body : List Stmt} {args : Args} {binds : List (Str × Value)}
    (hroom : A.depth < recursionLimit) (ho : s.heap.get? a = some o) (hdata : o.data = .func fd) (hlim : s.heap.NoLimit) (hcd : s.heap.CodeRec fd.code fd.qualname)
    (hbody : fd.body = .stmts body) (hbind : BindsTo s fd args binds)
    (hcell : ∀ x ∈ fd.scope.names, x.2 ≠ .cell) (hloc : ∀ x ∈ binds, fd.scope.names.lookup x.1 = some .local)
    (h : ∀ h₀, h₀.Ns s.heap.objs.size (fun x => binds.reverse.lookup x) → (∀ b o, s.heap.get? b = some o → h₀.get? b = some o) →
      wpP (model prog w) (A.deeper (callEnv fd s.heap.objs.size a)) (execs body (callEnv fd s.heap.objs.size a)) (fun f s' => R (.ok (.ret (match f with | .ret v => v | _ => .none))) s')
        (fun e s' => wpAny (model prog w) (A.deeper (callEnv fd s.heap.objs.size a)) (leaving (callEnv fd s.heap.objs.size a) e) (fun _ s'' => R (.error e) s'') (fun e' s'' => R (.error e') s'') s')
        { s with heap := h₀, toks := s.toks + binds.length })
    (hco : fd.scope.isCoroutine = false := by rfl) (hgen : fd.scope.isGenerator = false := by rfl) (hk : fd.scope.kind = .function := by rfl) :
    codeP (model prog w) A (.call (.ref a) args) R s := by
  refine codeP_of_tree ?_
  show wpP _ A.in1 (callAny (.ref a) args) _ _ s
  refine wpP_bindA (m := load a) (wpAny_load ho ?_)
  obtain ⟨c, oc, vs, tq, hc, hoc, hdc, hq⟩ := hcd
  have hb := hbind
  rw [hdata]
  dsimp only
  unfold callFunction
  rw [hco, hgen, hbody, hc]
  refine wpP_bindA (m := field (.ref c) 1) (wpAny_field hoc hdc hq (wpP_bindA (wpAny_pure ?_)))
  refine wpP_bindA (hb _ _ _ _ (wpP_bindA (wpAny_newFunctionEnv hcell hloc (fun h₀ hns₀ hsb₀ => wpP_bindA (wpAny_enterFrame (hlim.fresh _ hsb₀) hroom ?_)) hk)))
  rw [← hc]
  exact wpP_pure (And.intro rfl (codeP_func (h h₀ hns₀ fun b o e => hsb₀.extBut b o (Nat.ne_of_lt (Heap.lt_size e)) (Heap.get?_push_of_some _ e))))
end
/-- a contract of a def -/
noncomputable def CtrP (prog : Program) (w : World) (K : Frag) (p : Program) (loose : List Str) (mean : ExcName → Option Value) (mg mb : Str → Option Value)
    (d u : Nat) (f : Addr) (args : List Value) (own : List (Addr × Obj)) (post : Value → List (Addr × Obj) → Prop) (err : Value → List Value → Prop) (errN : String → Prop) : Prop :=
  ∀ (dp un : Nat) (gd : Option (List Code)) (fr : List Env) (base : Heap) (s : Shared) (R : Result → Shared → Prop),
    Below (mA dp un gd fr) base fr (hid s.heap own) → K.In (hid s.heap own) → Top p loose mean mg mb (hid s.heap own) → KtsDicts (fsOf fr) (hid s.heap own) → dp + d < recursionLimit → un + u < cLine →
    (∀ q ∈ own, s.heap.get? q.1 = some q.2) →
    (∀ v s' own', Ret s own s' own' → post v own' → R (.ok (.ret v)) s') →
    (∀ v s', Flew base fr (hid s.heap own) err errN s v s' → R (.error v) s') →
    codeP (model prog w) (mA dp un gd fr) (.call (.ref f) ⟨args, []⟩) R s

section
variable {prog : Program} {w : World} {K : Frag} {p : Program} {loose : List Str} {mean : ExcName → Option Value} {mg mb : Str → Option Value} {d u : Nat} {f : Addr} {args : List Value} {own : List (Addr × Obj)}
  {post : Value → List (Addr × Obj) → Prop} {err : Value → List Value → Prop} {errN : String → Prop}

/-- a plain def is entered -/
theorem ctrP_enter {name qual : Str} {params : Arguments} {body : List Stmt} {scope : Scope} {dV kV doc pm cdv ct oc : Value} {an od : Option Addr} {osl : Array (Option Value)} {binds : List (Str × Value)}
    (ho : K.lookup f = some ⟨oc, od, .func (fnOf name qual params body scope dV kV doc pm an cdv ct), osl⟩) (hcd : codeIn K cdv qual = true)
    (hbind : ∀ s, BindsTo s (fnOf name qual params body scope dV kV doc pm an cdv ct) ⟨args, []⟩ binds) (hloc : ∀ y ∈ binds, scope.names.lookup y.1 = some .local)
    (h : ∀ (dp un : Nat) (gd : Option (List Code)) (fr : List Env) (base g : Heap) (L : Addr) (h₁ : Heap) (s : Shared), dp + d < recursionLimit → un + u < cLine →
      g = hid s.heap own → Below (mA dp un gd fr) base fr g → Fr g L h₁ (fun y => binds.reverse.lookup y) → News g L h₁ own → K.In g → Top p loose mean mg mb g → (∀ q ∈ own, q.1 < L) → KtsDicts (fsOf fr) g →
      wpP (model prog w) ((mA dp un gd fr).deeper (envOf qual scope L f cdv)) (execs body (envOf qual scope L f cdv))
        (fun fl s' => Lv s g post (match fl with | .ret v => v | _ => .none) s')
        (fun e s' => wpAny (model prog w) ((mA dp un gd fr).deeper (envOf qual scope L f cdv)) (leaving (envOf qual scope L f cdv) e) (fun _ s'' => Flew base fr g err errN s e s'') (fun e' s'' => Flew base fr g err errN s e' s'') s')
        { s with heap := h₁, toks := s.toks + binds.length })
    (hco : scope.isCoroutine = false) (hgen : scope.isGenerator = false) (hk : scope.kind = .function)
    (hcell : ∀ x ∈ scope.names, x.2 ≠ .cell) (hroom : 0 < d := by decide) : CtrP prog w K p loose mean mg mb d u f args own post err errN := by
  intro dp un gd fr base s R BG X T DG hd hu hown hret herr
  have hX : K.In s.heap := fun a o e => of_hideAll _ (X a o e)
  have hl : s.heap.NoLimit := T.nolimit.keeps fun b o e => of_hideAll _ e
  refine codeP_call_def (fd := fnOf name qual params body scope dV kV doc pm an cdv ct) (body := body) (binds := binds) (Nat.lt_of_le_of_lt (Nat.le_add_right dp d) hd) (hX _ _ ho) rfl hl (codeRec_of hX hcd) rfl (hbind s) hcell hloc (fun h₁ hns hk₁ => ?_) hco hgen hk
  refine wpP_mono (h dp un gd fr base _ s.heap.objs.size h₁ s hd hu rfl BG ⟨hns, fun b o e => hk₁ b o (of_hideAll _ e), Nat.le_of_eq (hideAll_size _ _)⟩
    (fun q hq => ⟨hk₁ _ _ (hown q hq), Nat.ne_of_lt (Heap.lt_size (hown q hq)), hideAll_none _ (List.mem_map_of_mem hq)⟩) X T (fun q hq => Heap.lt_size (hown q hq)) DG) (fun fl s' hl => ?_) fun e s' y => ?_
  · obtain ⟨own', hr, hp⟩ := hl.ret
    exact hret _ _ _ hr hp
  · exact wpAny_mono y (fun _ s'' hl => herr _ _ hl) fun e' s'' hl => herr _ _ hl

/-- a contract is used at a call; a raise goes on -/
theorem ctrP_useE (C : CtrP prog w K p loose mean mg mb d u f args own post err errN) {A₀ : Around} {base h₀ : Heap} {outer : List Env} {env : Env} {L : Addr} {m : Str → Option Value} {s : Shared} {rest : List (Addr × Obj)} {dp un : Nat} {gd : Option (List Code)}
    {Q E : Value → Shared → Prop}
    (B : Below A₀ base outer h₀) (F : Fr h₀ L s.heap m) (X : K.In h₀) (T : Top p loose mean mg mb h₀) (D : KtsDicts (fsOf outer) h₀) (N : News h₀ L s.heap (own ++ rest)) (hf : env.frame = some L) (hke : env.scope.kind = .function)
    (hd : dp + d < recursionLimit) (hu : un + u < cLine) (hap : ∀ q ∈ rest, q.1 ∉ own.map (·.1))
    (h : ∀ v own' h' tk', post v own' → Fr h₀ L h' m → News h₀ L h' (own' ++ rest) → (∀ a ∈ own', a.1 ∈ own.map (·.1) ∨ ∀ q ∈ rest, a.1 ≠ q.1) → Q v { s with heap := h', toks := tk' })
    (he : ∀ v h' tk', Fr h₀ L (hid s.heap own) m → Flew base (env :: outer) (hid s.heap own) err errN s v { s with heap := h', toks := tk' } → E v { s with heap := h', toks := tk' }) :
    wpP (model prog w) (mA dp un gd (env :: outer)) (call (.ref f) args) Q E s := by
  have No : News h₀ L s.heap own := fun q hq => N q (List.mem_append_left _ hq)
  obtain ⟨FG, BG, st, _⟩ := groundX (A := mA dp un gd (env :: outer)) (R := fun _ _ => True) B F No rfl hf hke
  refine wpP_call (C dp un gd (env :: outer) base s _ BG (X.keeps st) (T.keeps st) (dicts_push F No D hf st) hd hu (fun q hq => (No q hq).1) ?_ ?_)
  · intro v s' own' r hp
    obtain ⟨F', N', hn⟩ := ret_back F N hap r
    have e := r.same
    have := h v own' s'.heap s'.toks hp F' N' hn
    rw [← e] at this; exact this
  · intro v s' r
    have e' := r.1
    have := he v s'.heap s'.toks FG (by rw [← e']; exact r)
    rw [← e'] at this; exact this
end

section
variable {M : Model} {A : Around} {E : Value → Shared → Prop} {env : Env} {Q : Flow → Shared → Prop}
theorem wp_split {Γ : PySem.Ctx} (hΓ : Γ.In A) (hc : Cal Γ) : ∀ (n : Nat) (body : List Stmt) (p : Pos) (s : Shared),
    Sem.wp M Γ (execs (body.take n) env) (fun f _ s' => match f with | .next => wpP M A (execs (body.drop n) env) Q E s' | f => Q f s') (fun e _ s' => E e s') p s →
      Sem.wp M Γ (execs body env) (fun f _ s' => Q f s') (fun e _ s' => E e s') p s
  | 0, body, p, s, h => by
    have h' : wpP M A (execs body env) Q E s := h
    exact h' Γ p hΓ hc
  | n + 1, [], p, s, h => by
    have h' : wpP M A (execs [] env) Q E s := h
    exact h' Γ p hΓ hc
  | n + 1, a :: body, p, s, h => by
    rw [List.take_succ_cons, execs_cons, Sem.wp_bind'] at h
    rw [execs_cons, Sem.wp_bind']
    refine Sem.wp_mono M Γ _ (fun f p' s' h' => ?_) (fun _ _ _ h' => h') p s h
    cases f with
    | next => exact wp_split hΓ hc n body p' s' h'
    | brk => exact h'
    | cont => exact h'
    | ret v => exact h'
theorem wpP_split (n : Nat) {body : List Stmt} {s : Shared}
    (h : wpAny M A (execs (body.take n) env) (fun f s' => match f with | .next => wpP M A (execs (body.drop n) env) Q E s' | f => Q f s') E s) : wpP M A (execs body env) Q E s :=
  fun Γ p hΓ hc => wp_split hΓ hc n body p s (h Γ p hΓ)
end

section
variable {M : Model} {A : Around} {E : Value → Shared → Prop} {s : Shared} {env : Env} {pos : Pos}
theorem wpP_callWith_type1 {T : String} {e : Expr} {Q : Value → Shared → Prop} (h : wpAny M A (eval e env) (fun v s₁ => wpP M A (call (.type T) [v]) Q E s₁) E s)
    (he : starEach [e] env = [(false, eval e env)] := by rfl) : wpP M A (callWith pos (.type T) [] (backTo pos (starEach [e] env)) []) Q E s := by
  rw [he]
  exact wpP_callWith_type (evalArgs_plain (Calls.spliced_cons (wpAny_mono h (fun v s₁ h₁ => Calls.spliced_nil h₁) fun _ _ x => x)))
theorem wpP_callWith_fn1 {a : Addr} {e : Expr} {Q : Value → Shared → Prop} (h : wpAny M A (eval e env) (fun v s₁ => FnAnd s₁.heap a (wpP M A (call (.ref a) [v]) Q E s₁)) E s)
    (he : starEach [e] env = [(false, eval e env)] := by rfl) : wpP M A (callWith pos (.ref a) [] (backTo pos (starEach [e] env)) []) Q E s := by
  rw [he]
  exact wpP_callWith_fn (evalArgs_plain (Calls.spliced_cons (wpAny_mono h (fun v s₁ h₁ => Calls.spliced_nil h₁) fun _ _ x => x)))
theorem wpP_callWith_fn2 {a : Addr} {e e' : Expr} {Q : Value → Shared → Prop} (h : wpAny M A (eval e env) (fun v s₁ => wpAny M A (eval e' env) (fun v' s₂ => FnAnd s₂.heap a (wpP M A (call (.ref a) [v, v']) Q E s₂)) E s₁) E s)
    (he : starEach [e, e'] env = [(false, eval e env), (false, eval e' env)] := by rfl) : wpP M A (callWith pos (.ref a) [] (backTo pos (starEach [e, e'] env)) []) Q E s := by
  rw [he]
  exact wpP_callWith_fn (evalArgs_plain (Calls.spliced_cons (wpAny_mono h (fun v s₁ h₁ => Calls.spliced_cons (wpAny_mono h₁ (fun v' s₂ h₂ => Calls.spliced_nil h₂) fun _ _ x => x)) fun _ _ x => x)))
theorem fn_at {K : Frag} {g h : Heap} {L f : Addr} {m : Str → Option Value} {oc : Value} {od : Option Addr} {fd : FuncData} {osl : Array (Option Value)} (X : K.In g) (F : Fr g L h m) (ho : K.lookup f = some ⟨oc, od, .func fd, osl⟩) : ∃ o fd, h.get? f = some o ∧ o.data = .func fd :=
  ⟨_, _, F.keep _ _ (X _ _ ho), rfl⟩
end

-- part pexc
section
variable {prog : Program} {w : World} {M : Model} {A : Around} {E : Value → Shared → Prop} {s : Shared} {K : Frag} {e t C : Addr} {oe ot : Obj} {ws : Array Value} {m : Str} {tk : Tok}
open Builtin Builtin.Str Builtin.BaseException
end

-- part pctrt

/-! contracts of the defs that catch: the callers' frames may have got other slots -/
structure RetT (fs : List Addr) (s : Shared) (own : List (Addr × Obj)) (s' : Shared) (own' : List (Addr × Obj)) : Prop where
  same : s' = { s with heap := s'.heap, toks := s'.toks }
  turn : ∃ g', KtsTurn fs (hid s.heap own) g' ∧ ∀ b o, g'.get? b = some o → s'.heap.get? b = some o
  at_ : ∀ p ∈ own', s'.heap.get? p.1 = some p.2
  from_ : ∀ p ∈ own', p.1 ∈ own.map (·.1) ∨ s.heap.get? p.1 = none
noncomputable def CtrT (prog : Program) (w : World) (K : Frag) (p : Program) (loose : List Str) (mean : ExcName → Option Value) (mg mb : Str → Option Value)
    (d u : Nat) (f : Addr) (args : List Value) (own : List (Addr × Obj)) (post : Value → List (Addr × Obj) → Prop) : Prop :=
  ∀ (dp un : Nat) (gd : Option (List Code)) (fr : List Env) (base : Heap) (s : Shared) (R : Result → Shared → Prop),
    Below (mA dp un gd fr) base fr (hid s.heap own) → K.In base → Top p loose mean mg mb base → KtsDicts (fsOf fr) (hid s.heap own) → dp + d < recursionLimit → un + u < cLine →
    (∀ q ∈ own, s.heap.get? q.1 = some q.2) →
    (∀ v s' own', RetT (fsOf fr) s own s' own' → post v own' → R (.ok (.ret v)) s') →
    codeP (model prog w) (mA dp un gd fr) (.call (.ref f) ⟨args, []⟩) R s
/-- the end of the body of such a def -/
inductive LvT (s : Shared) (fs : List Addr) (g : Heap) (post : Value → List (Addr × Obj) → Prop) (v : Value) (s' : Shared) : Prop
  | mk (g' : Heap) (L' : Addr) (m' : Str → Option Value) (own' : List (Addr × Obj)) (e : s' = { s with heap := s'.heap, toks := s'.toks }) (T : KtsTurn fs g g') (F : Fr g' L' s'.heap m') (N : News g' L' s'.heap own') (p : post v own')
section
variable {prog : Program} {w : World} {K : Frag} {p : Program} {loose : List Str} {mean : ExcName → Option Value} {mg mb : Str → Option Value} {d u : Nat} {f : Addr} {args : List Value} {own : List (Addr × Obj)}
  {post : Value → List (Addr × Obj) → Prop}
theorem turn_none {fs : List Addr} {g g' : Heap} (T : KtsTurn fs g g') {b : Addr} (e : g'.get? b = none) : g.get? b = none := by
  cases q : g.get? b with
  | none => rfl
  | some o => obtain ⟨sl, h⟩ := T.up q; rw [e] at h; cases h
theorem LvT.ret {s : Shared} {fs : List Addr} {v : Value} {s' : Shared} (h : LvT s fs (hid s.heap own) post v s') : ∃ own', RetT fs s own s' own' ∧ post v own' := by
  obtain ⟨g', L', m', own', e, T, F, N, hp⟩ := h
  exact ⟨own', ⟨e, ⟨g', T, F.keep⟩, fun q hq => (N q hq).1, fun q hq => hid_none (turn_none T (N q hq).2.2)⟩, hp⟩
theorem Lv.T {s : Shared} {fs : List Addr} {g : Heap} {v : Value} {s' : Shared} (h : Lv s g post v s') : LvT s fs g post v s' := by
  obtain ⟨L', m', own', e, F, N, hp⟩ := h
  exact ⟨g, L', m', own', e, .refl, F, N, hp⟩
theorem ctrT_enter {name qual : Str} {params : Arguments} {body : List Stmt} {scope : Scope} {dV kV doc pm cdv ct oc : Value} {an od : Option Addr} {osl : Array (Option Value)} {binds : List (Str × Value)}
    (ho : K.lookup f = some ⟨oc, od, .func (fnOf name qual params body scope dV kV doc pm an cdv ct), osl⟩) (hcd : codeIn K cdv qual = true)
    (hbind : ∀ s, BindsTo s (fnOf name qual params body scope dV kV doc pm an cdv ct) ⟨args, []⟩ binds) (hloc : ∀ y ∈ binds, scope.names.lookup y.1 = some .local)
    (h : ∀ (dp un : Nat) (gd : Option (List Code)) (fr : List Env) (base g : Heap) (L : Addr) (h₁ : Heap) (s : Shared), dp + d < recursionLimit → un + u < cLine →
      g = hid s.heap own → Below (mA dp un gd fr) base fr g → Fr g L h₁ (fun y => binds.reverse.lookup y) → News g L h₁ own → K.In base → Top p loose mean mg mb base → K.In g → Top p loose mean mg mb g → (∀ q ∈ own, q.1 < L) → KtsDicts (fsOf fr) g →
      wpP (model prog w) ((mA dp un gd fr).deeper (envOf qual scope L f cdv)) (execs body (envOf qual scope L f cdv))
        (fun fl s' => LvT s (fsOf fr) g post (match fl with | .ret v => v | _ => .none) s') noE
        { s with heap := h₁, toks := s.toks + binds.length })
    (hco : scope.isCoroutine = false) (hgen : scope.isGenerator = false) (hk : scope.kind = .function)
    (hcell : ∀ x ∈ scope.names, x.2 ≠ .cell) (hroom : 0 < d := by decide) : CtrT prog w K p loose mean mg mb d u f args own post := by
  intro dp un gd fr base s R BG XB TB DG hd hu hown hret
  have XG : K.In (hid s.heap own) := XB.keeps BG.stays
  have TG : Top p loose mean mg mb (hid s.heap own) := TB.keeps BG.stays
  have hX : K.In s.heap := fun a o e => of_hideAll _ (XG a o e)
  have hl : s.heap.NoLimit := TG.nolimit.keeps fun b o e => of_hideAll _ e
  refine codeP_call_def (fd := fnOf name qual params body scope dV kV doc pm an cdv ct) (body := body) (binds := binds) (Nat.lt_of_le_of_lt (Nat.le_add_right dp d) hd) (hX _ _ ho) rfl hl (codeRec_of hX hcd) rfl (hbind s) hcell hloc (fun h₁ hns hk₁ => ?_) hco hgen hk
  refine wpP_mono (h dp un gd fr base _ s.heap.objs.size h₁ s hd hu rfl BG ⟨hns, fun b o e => hk₁ b o (of_hideAll _ e), Nat.le_of_eq (hideAll_size _ _)⟩
    (fun q hq => ⟨hk₁ _ _ (hown q hq), Nat.ne_of_lt (Heap.lt_size (hown q hq)), hideAll_none _ (List.mem_map_of_mem hq)⟩) XB TB XG TG (fun q hq => Heap.lt_size (hown q hq)) DG) (fun fl s' hl => ?_) fun e s' y => y.elim
  obtain ⟨own', hr, hp⟩ := hl.ret
  exact hret _ _ _ hr hp

/-- what the outermost def keeps over such a call -/
theorem retT_back {h₀ : Heap} {L : Addr} {m : Str → Option Value} {s s' : Shared} {rest own' : List (Addr × Obj)} {fs : List Addr} (F : Fr h₀ L s.heap m) (N : News h₀ L s.heap (own ++ rest)) (hap : ∀ q ∈ rest, q.1 ∉ own.map (·.1)) (r : RetT (L :: fs) s own s' own')
    (hfs : ∀ b ∈ fs, ∃ o es n, h₀.get? b = some o ∧ o.data = .dict es n) :
    ∃ h₀', KtsTurn fs h₀ h₀' ∧ Fr h₀' L s'.heap m ∧ News h₀' L s'.heap (own' ++ rest) ∧ ∀ a ∈ own', a.1 ∈ own.map (·.1) ∨ ∀ q ∈ rest, a.1 ≠ q.1 := by
  have No : News h₀ L s.heap own := fun q hq => N q (List.mem_append_left _ hq)
  have nm : ∀ b o, h₀.get? b = some o → b ∉ own.map (·.1) := fun b o e q => by
    obtain ⟨q', hq, rfl⟩ := List.mem_map.mp q
    rw [(No q' hq).2.2] at e; cases e
  have nL : L ∉ own.map (·.1) := fun q => by
    obtain ⟨q', hq, e⟩ := List.mem_map.mp q
    exact (No q' hq).2.1 e
  obtain ⟨oL, es, ep, hL, hLd, hLk, hLf⟩ := F.ns
  obtain ⟨g', T, kp⟩ := r.turn
  have h0L : h₀.get? L = none := Heap.get?_none_of_le F.above
  have up : ∀ b o, s.heap.get? b = some o → b ∉ own.map (·.1) → ∃ sl, s'.heap.get? b = some { o with slots := sl } := fun b o e hn => by
    obtain ⟨sl, h⟩ := T.up (hideAll_get _ e hn)
    exact ⟨sl, kp _ _ h⟩
  obtain ⟨T', S'⟩ := kts_turn_at (h := s'.heap) (fs := fs) (g := h₀) (fun b hb => by obtain ⟨o, _, _, ho, _⟩ := hfs b hb; exact ⟨o, ho⟩)
    (fun b o e hb => kp _ _ (T.other b o (hideAll_get _ (F.keep b o e) (nm b o e)) (fun hm => by
      rcases List.mem_cons.mp hm with rfl | hm
      · rw [h0L] at e; cases e
      · exact hb hm)))
    (fun b o e hb => up b o (F.keep b o e) (nm b o e))
  have notfs : ∀ q : Addr × Obj, h₀.get? q.1 = none → q.1 ≠ L → q.1 ∉ (L :: fs) := fun q h1 h2 hm => by
    rcases List.mem_cons.mp hm with e | hm
    · exact h2 e
    · obtain ⟨o, _, _, ho, _⟩ := hfs _ hm
      rw [h1] at ho; cases ho
  obtain ⟨sl, hL'⟩ := up L oL hL nL
  refine ⟨_, T', ⟨⟨_, es, ep, hL', hLd, hLk, hLf⟩, S', by rw [T'.size]; exact F.above⟩, fun q hq => ?_, fun a ha => ?_⟩
  · rcases List.mem_append.mp hq with hq | hq
    · refine ⟨r.at_ q hq, ?_, T'.none_ _ ?_⟩
      · rcases r.from_ q hq with h1 | h1
        · exact fun e => nL (e ▸ h1)
        · intro e; rw [e, hL] at h1; cases h1
      · rcases r.from_ q hq with h1 | h1
        · obtain ⟨q', hq', e⟩ := List.mem_map.mp h1
          have := (No q' hq').2.2
          rw [e] at this; exact this
        · cases q2 : h₀.get? q.1 with
          | none => rfl
          | some o => rw [F.keep _ _ q2] at h1; cases h1
    · have z := N q (List.mem_append_right _ hq)
      refine ⟨kp _ _ (T.other _ _ (hideAll_get _ z.1 (hap q hq)) (notfs q z.2.2 z.2.1)), z.2.1, T'.none_ _ z.2.2⟩
  · rcases r.from_ a ha with h1 | h1
    · exact .inl h1
    · refine .inr fun q hq e => ?_
      rw [e, (N q (List.mem_append_right _ hq)).1] at h1; cases h1

/-- such a contract is used -/
theorem ctrT_use (C : CtrT prog w K p loose mean mg mb d u f args own post) {A₀ : Around} {base h₀ : Heap} {outer : List Env} {env : Env} {L : Addr} {m : Str → Option Value} {s : Shared} {rest : List (Addr × Obj)} {dp un : Nat} {gd : Option (List Code)}
    {Q E : Value → Shared → Prop}
    (B : Below A₀ base outer h₀) (F : Fr h₀ L s.heap m) (XB : K.In base) (TB : Top p loose mean mg mb base) (D : KtsDicts (fsOf outer) h₀) (N : News h₀ L s.heap (own ++ rest)) (hf : env.frame = some L) (hke : env.scope.kind = .function)
    (hd : dp + d < recursionLimit) (hu : un + u < cLine) (hap : ∀ q ∈ rest, q.1 ∉ own.map (·.1))
    (h : ∀ v own' h' tk' h₀', post v own' → KtsTurn (fsOf outer) h₀ h₀' → Fr h₀' L h' m → News h₀' L h' (own' ++ rest) → (∀ a ∈ own', a.1 ∈ own.map (·.1) ∨ ∀ q ∈ rest, a.1 ≠ q.1) → Q v { s with heap := h', toks := tk' }) :
    wpP (model prog w) (mA dp un gd (env :: outer)) (call (.ref f) args) Q E s := by
  have No : News h₀ L s.heap own := fun q hq => N q (List.mem_append_left _ hq)
  obtain ⟨FG, BG, st, _⟩ := groundX (A := mA dp un gd (env :: outer)) (R := fun _ _ => True) B F No rfl hf hke
  have efs : fsOf (env :: outer) = L :: fsOf outer := by simp [fsOf, hf]
  refine wpP_call (C dp un gd (env :: outer) base s _ BG XB TB (dicts_push F No D hf st) hd hu (fun q hq => (No q hq).1) ?_)
  intro v s' own' r hp
  rw [efs] at r
  obtain ⟨h₀', T', F', N', hn⟩ := retT_back F N hap r D
  have e := r.same
  have := h v own' s'.heap s'.toks h₀' hp T' F' N' hn
  rw [← e] at this; exact this
end

-- part pcell
/-- a def with cells is entered -/
theorem ctr_enterC {prog : Program} {w : World} {K : Frag} {p : Program} {loose : List Str} {mean : ExcName → Option Value} {mg mb : Str → Option Value} {d u : Nat} {f : Addr} {args : List Value} {own : List (Addr × Obj)}
    {post : Value → List (Addr × Obj) → Prop} {err : Value → List Value → Prop} {errN : String → Prop} {name qual : Str} {params : Arguments} {body : List Stmt} {scope : Scope} {dV kV doc pm cdv ct oc : Value} {an od : Option Addr} {osl : Array (Option Value)} {binds : List (Str × Value)}
    (ho : K.lookup f = some ⟨oc, od, .func (fnOf name qual params body scope dV kV doc pm an cdv ct), osl⟩) (hcd : codeIn K cdv qual = true)
    (hbind : ∀ s, BindsTo s (fnOf name qual params body scope dV kV doc pm an cdv ct) ⟨args, []⟩ binds) (hkind : (binds.all fun y => scope.names.lookup y.1 == some .local || scope.names.lookup y.1 == some .cell) = true)
    (hnd : ((cellsFrom 0 scope.names []).map (·.1)).Nodup)
    (h : ∀ (dp un : Nat) (gd : Option (List Code)) (fr : List Env) (base g : Heap) (L : Addr) (h₁ : Heap) (s : Shared) (tk : Nat) (cells : List (Addr × Obj)), dp + d < recursionLimit → un + u < cLine →
      g = hid s.heap own → Below (mA dp un gd fr) base fr g → Fr g L h₁ (bindL (envOfC qual scope L f cdv).kindOf binds fun _ => none) → News g L h₁ (cells ++ own) →
      CellsAre (bindC (envOfC qual scope L f cdv).kindOf binds fun _ => none) (cellsFrom (L + 1) scope.names []) cells → K.In g → Top p loose mean mg mb g → (∀ q ∈ own, q.1 < L) → KtsDicts (fsOf fr) g →
      wpAny (model prog w) ((mA dp un gd fr).deeper (envOfC qual scope L f cdv)) (execs body (envOfC qual scope L f cdv))
        (fun fl s' => Lv s g post (match fl with | .ret v => v | _ => .none) s')
        (fun e s' => wpAny (model prog w) ((mA dp un gd fr).deeper (envOfC qual scope L f cdv)) (leaving (envOfC qual scope L f cdv) e) (fun _ s'' => Flew base fr g err errN s e s'') (fun e' s'' => Flew base fr g err errN s e' s'') s')
        { s with heap := h₁, toks := tk })
    (hco : scope.isCoroutine = false) (hgen : scope.isGenerator = false) (hk : scope.kind = .function) (hroom : 0 < d := by decide) : Ctr prog w K p loose mean mg mb d u f args own post err errN := by
  intro dp un gd fr base s R BG X T DG hd hu hown hret herr
  have hX : K.In s.heap := fun a o e => of_hideAll _ (X a o e)
  have hl : s.heap.NoLimit := T.nolimit.keeps fun b o e => of_hideAll _ e
  refine codeAny_call_function (Nat.lt_of_le_of_lt (Nat.le_add_right dp d) hd) (hX _ _ ho) rfl hco hgen rfl (codeRec_of hX hcd) (hbind s _ _ _ _ ?_)
  refine wpAny_newFunctionEnv_cells hk (kindsX hkind _) fun env' he s' x => ?_
  subst he
  refine ⟨hl.keeps x.toInCall.keep, codeAny_func ?_⟩
  obtain ⟨h₁, tk, rfl, _⟩ := x.done
  have hk₁ := x.toInCall.keep
  obtain ⟨cells, NC, Y⟩ := Cl.news (h₀ := s.heap) (Nat.le_refl _) fun n c hm => ⟨x.cell n c (lookup_of_mem_nodup (cellsFrom_names scope.names 0 (s.heap.objs.size + 1) [] [] rfl ▸ hnd) hm), x.above n c hm⟩
  refine wpAny_mono (h dp un gd fr base _ s.heap.objs.size h₁ s tk cells hd hu rfl BG ⟨x.toInCall.ns, fun b o e => hk₁ b o (of_hideAll _ e), Nat.le_of_eq (hideAll_size _ _)⟩ (fun q hq => ?_) Y X T (fun q hq => Heap.lt_size (hown q hq)) DG) (fun fl s' hl => ?_) fun e s' y => ?_
  · rcases List.mem_append.mp hq with hq | hq
    · refine ⟨(NC q hq).1, (NC q hq).2.1, ?_⟩
      cases z : (hid s.heap own).get? q.1 with
      | none => rfl
      | some o => have := of_hideAll _ z; rw [(NC q hq).2.2] at this; cases this
    · exact ⟨hk₁ _ _ (hown q hq), Nat.ne_of_lt (Heap.lt_size (hown q hq)), hideAll_none _ (List.mem_map_of_mem hq)⟩
  · obtain ⟨own', hr, hp⟩ := hl.ret
    exact hret _ _ _ hr hp
  · exact wpAny_mono y (fun _ s'' hl => herr _ _ hl) fun e' s'' hl => herr _ _ hl

-- part pcls
section
variable {prog : Program} {w : World} {K : Frag} {p : Program} {loose : List Str} {mean : ExcName → Option Value} {mg mb : Str → Option Value} {d u : Nat} {f : Addr} {args : List Value} {own : List (Addr × Obj)}
  {post : Value → List (Addr × Obj) → Prop}
/-- a contract as a code -/
theorem ctr_code (C : Ctr prog w K p loose mean mg mb d u f args own post noErr noErrN) {A₀ : Around} {base h₀ : Heap} {outer : List Env} {env : Env} {L : Addr} {m : Str → Option Value} {s : Shared} {rest : List (Addr × Obj)} {dp un : Nat} {gd : Option (List Code)}
    {R : Result → Shared → Prop}
    (B : Below A₀ base outer h₀) (F : Fr h₀ L s.heap m) (X : K.In h₀) (T : Top p loose mean mg mb h₀) (D : KtsDicts (fsOf outer) h₀) (N : News h₀ L s.heap (own ++ rest)) (hf : env.frame = some L) (hke : env.scope.kind = .function)
    (hd : dp + d < recursionLimit) (hu : un + u < cLine) (hap : ∀ q ∈ rest, q.1 ∉ own.map (·.1))
    (h : ∀ v own' h' tk', post v own' → Fr h₀ L h' m → News h₀ L h' (own' ++ rest) → (∀ a ∈ own', a.1 ∈ own.map (·.1) ∨ ∀ q ∈ rest, a.1 ≠ q.1) → R (.ok (.ret v)) { s with heap := h', toks := tk' }) :
    codeAny (model prog w) (mA dp un gd (env :: outer)) (.call (.ref f) ⟨args, []⟩) R s := by
  have No : News h₀ L s.heap own := fun q hq => N q (List.mem_append_left _ hq)
  obtain ⟨FG, BG, st, _⟩ := groundX (A := mA dp un gd (env :: outer)) (R := fun _ _ => True) B F No rfl hf hke
  refine C dp un gd (env :: outer) base s _ BG (X.keeps st) (T.keeps st) (dicts_push F No D hf st) hd hu (fun q hq => (No q hq).1) ?_ (fun v s' r => (flew_no r).elim)
  intro v s' own' r hp
  obtain ⟨F', N', hn⟩ := ret_back F N hap r
  have e := r.same
  have := h v own' s'.heap s'.toks hp F' N' hn
  rw [← e] at this; exact this
/-- a class is called whose __init__ has a contract -/
theorem cls_use {C fI : Addr} {pos : List Value} {d u : Nat} {own : List (Addr × Obj)} {postI : Addr → Addr → Value → List (Addr × Obj) → Prop}
    (CI : ∀ x dx, dx < x → Ctr prog w K p loose mean mg mb d u fI (.ref x :: pos) ([(x, instObj C dx), (dx, dictOf [] 0)] ++ own) (postI x dx) noErr noErrN) (hno : ∀ x dx v own', postI x dx v own' → v = .none)
    {A₀ : Around} {base h₀ : Heap} {outer : List Env} {env : Env} {L : Addr} {m : Str → Option Value} {s : Shared} {rest : List (Addr × Obj)} {dp un : Nat} {gd : Option (List Code)}
    {Q E : Value → Shared → Prop}
    (B : Below A₀ base outer h₀) (F : Fr h₀ L s.heap m) (X : K.In h₀) (T : Top p loose mean mg mb h₀) (D : KtsDicts (fsOf outer) h₀) (N : News h₀ L s.heap (own ++ rest)) (hf : env.frame = some L) (hke : env.scope.kind = .function)
    (hm : makesIn K C = true) (hi : findIn K (.ref C) "__init__" = some (some (.ref fI))) (hfn : isFn K (.ref fI) = true)
    (hd : dp + 1 + d < recursionLimit) (hu : un + 1 + u < cLine) (hap : ∀ q ∈ rest, q.1 ∉ own.map (·.1))
    (h : ∀ x dx own' h' tk', dx < x → postI x dx .none own' → Fr h₀ L h' m → News h₀ L h' (own' ++ rest) → (∀ a ∈ own', (∀ q ∈ rest, a.1 ≠ q.1)) → (∀ q ∈ own ++ rest, q.1 < dx) → Q (.ref x) { s with heap := h', toks := tk' }) :
    wpAny (model prog w) (mA dp un gd (env :: outer)) (call (.ref C) pos) Q E s := by
  refine call_cls F X N hm hi hfn fun x dx h' F' N' l1 l2 => ?_
  show codeAny _ (mA (dp + 1) (un + 1) gd (env :: outer)) _ _ _
  have N'' : News h₀ L h' (([(x, instObj C dx), (dx, dictOf [] 0)] ++ own) ++ rest) := fun q hq => N' q (by simpa using hq)
  have hx : ∀ q ∈ own ++ rest, q.1 < dx := l1
  have hap' : ∀ q ∈ rest, q.1 ∉ ([(x, instObj C dx), (dx, dictOf [] 0)] ++ own).map (·.1) := fun q hq hm => by
    have h1 := hx q (List.mem_append_right _ hq)
    simp only [List.cons_append, List.nil_append, List.map_cons, List.mem_cons] at hm
    rcases hm with e | e | e
    · rw [e] at h1; exact Nat.lt_irrefl _ (Nat.lt_trans h1 l2)
    · rw [e] at h1; exact Nat.lt_irrefl _ h1
    · exact hap q hq e
  refine ctr_code (dp := dp + 1) (un := un + 1) (gd := gd) (env := env) (outer := outer) (CI x dx l2) (s := { s with heap := h' }) B F' X T D N'' hf hke hd hu hap' ?_
  intro v own' h2 tk2 hp F2 N2 hn
  obtain rfl := hno x dx v own' hp
  refine ⟨rfl, h x dx own' h2 tk2 l2 hp F2 N2 (fun a ha q hq => ?_) l1⟩
  rcases hn a ha with e | e
  · intro e2
    exact hap' q hq (e2 ▸ e)
  · exact e q hq
end

-- part phd
noncomputable def strB : Value → Bool | .str _ _ => true | _ => false
noncomputable def intB : Value → Bool | .int _ _ => true | _ => false
noncomputable def boolB : Value → Bool | .bool _ => true | _ => false
theorem strB_of {v : Value} (h : strB v = true) : ∃ a b, v = .str a b := by cases v with | str a b => exact ⟨a, b, rfl⟩ | _ => cases h
theorem intB_of {v : Value} (h : intB v = true) : ∃ a b, v = .int a b := by cases v with | int a b => exact ⟨a, b, rfl⟩ | _ => cases h
theorem boolB_of {v : Value} (h : boolB v = true) : ∃ a, v = .bool a := by cases v with | bool a => exact ⟨a, rfl⟩ | _ => cases h
noncomputable def codeHdB (K : Frag) (c P : Addr) : Bool := match K.lookup c with
  | some o => (match o.data with
    | .fields vs => (o.cls == .type "code") && (vs[11]? == some (.ref P)) && (strB (vs.getD 18 .none) && intB (vs.getD 7 .none) && boolB (vs.getD 9 .none) && intB (vs.getD 10 .none)) && (c != P)
    | _ => false)
  | none => false
theorem codeHd_of {K : Frag} {h : Heap} {c P : Addr} (X : K.In h) (e : codeHdB K c P = true) : CodeHd h c P := by
  unfold codeHdB at e
  cases ho : K.lookup c with
  | none => rw [ho] at e; cases e
  | some o =>
    rw [ho] at e; dsimp only at e
    cases hv : o.data with
    | fields vs =>
      rw [hv] at e; dsimp only at e
      rw [Bool.and_eq_true, Bool.and_eq_true, Bool.and_eq_true, Bool.and_eq_true, Bool.and_eq_true, Bool.and_eq_true, beq_iff_eq, beq_iff_eq, bne_iff_ne] at e
      obtain ⟨⟨⟨e1, e2⟩, ⟨⟨h1, h2⟩, h3⟩, h4⟩, e4⟩ := e
      obtain ⟨_, _, h1⟩ := strB_of h1
      obtain ⟨_, _, h2⟩ := intB_of h2
      obtain ⟨_, h3⟩ := boolB_of h3
      obtain ⟨_, _, h4⟩ := intB_of h4
      exact ⟨o, vs, _, _, _, _, _, _, _, X _ _ ho, e1, hv, e2, by rw [Array.getD_eq_getD_getElem?, e2]; rfl, h1, h2, h3, h4, e4⟩
    | _ => rw [hv] at e; cases e

-- part plam
/-- a lambda of the ledger is entered -/
theorem ctr_enterL {prog : Program} {w : World} {K : Frag} {p : Program} {loose : List Str} {mean : ExcName → Option Value} {mg mb : Str → Option Value} {d u : Nat} {f c' : Addr} {oc : Obj} {vs : Array Value} {t : Tok} {args : List Value} {own : List (Addr × Obj)}
    {post : Value → List (Addr × Obj) → Prop} {name qual : Str} {params : Arguments} {body : Expr} {scope : Scope} {cl : List (Str × Addr)} {pm ctv : Value} {binds : List (Str × Value)}
    (ho : (f, kla_obj name qual params body scope cl pm c' ctv) ∈ own) (hco' : (c', oc) ∈ own) (hd1 : oc.data = .fields vs) (hd2 : vs[1]? = some (.str qual t))
    (hbind : bindArgs (kla_fn name qual params body scope cl pm (.ref c') ctv) ⟨args, []⟩ = pure binds) (hloc : ∀ y ∈ binds, scope.names.lookup y.1 = some .local)
    (h : ∀ (dp un : Nat) (gd : Option (List Code)) (fr : List Env) (base g : Heap) (L : Addr) (h₁ : Heap) (s : Shared), dp + d < recursionLimit → un + u < cLine →
      g = hid s.heap own → Below (mA dp un gd fr) base fr g → Fr g L h₁ (fun y => binds.reverse.lookup y) → News g L h₁ own → K.In g → Top p loose mean mg mb g → (∀ q ∈ own, q.1 < L) → KtsDicts (fsOf fr) g →
      wpAny (model prog w) ((mA dp un gd fr).deeper (envX qual scope L f (.ref c') cl)) (eval body (envX qual scope L f (.ref c') cl))
        (fun v s' => Lv s g post v s') noE
        { s with heap := h₁, toks := s.toks + binds.length })
    (hco : scope.isCoroutine = false) (hgen : scope.isGenerator = false) (hk : scope.kind = .function)
    (hcell : ∀ x ∈ scope.names, x.2 ≠ .cell) (hroom : 0 < d := by decide) : Ctr prog w K p loose mean mg mb d u f args own post noErr noErrN := by
  intro dp un gd fr base s R BG X T DG hd hu hown hret herr
  have hl : s.heap.NoLimit := T.nolimit.keeps fun b o e => of_hideAll _ e
  refine kla_callFunE (Nat.lt_of_le_of_lt (Nat.le_add_right dp d) hd) (hown _ ho) rfl hco hgen rfl ⟨c', oc, vs, t, rfl, hown _ hco', hd1, hd2⟩ ?_
  rw [hbind]
  refine wpAny_pure (wpAny_newFunctionEnv hcell hloc (fun h₁ hns hsb => ⟨hl.fresh _ hsb, ?_⟩) hk)
  have hk₁ : ∀ b o, s.heap.get? b = some o → h₁.get? b = some o := fun b o e => hsb.extBut b o (Nat.ne_of_lt (Heap.lt_size e)) (Heap.get?_push_of_some _ e)
  show codeAny _ _ (.expr body (envX qual scope s.heap.objs.size f (.ref c') cl)) _ _
  refine kla_codeExpr (wpAny_mono (h dp un gd fr base _ s.heap.objs.size h₁ s hd hu rfl BG ⟨hns, fun b o e => hk₁ b o (of_hideAll _ e), Nat.le_of_eq (hideAll_size _ _)⟩
    (fun q hq => ⟨hk₁ _ _ (hown q hq), Nat.ne_of_lt (Heap.lt_size (hown q hq)), hideAll_none _ (List.mem_map_of_mem hq)⟩) X T (fun q hq => Heap.lt_size (hown q hq)) DG) (fun v s' hl => ?_) fun _ _ y => y.elim)
  obtain ⟨own', hr, hp⟩ := hl.ret
  exact hret _ _ _ hr hp

noncomputable def ent (w : World) (n : String) (t : Tok) (v : Value) : DictEntry := { hash := PyData.keyHash w.params (Str.ofString n), key := .str (Str.ofString n) t, val := v }
/-- the fields of a lexer -/
noncomputable def lexD (w : World) (ln : Int) (fp : Value) (pb : Addr) (t1 t2 t3 t4 t5 t6 : Tok) : Obj :=
  dictOf [ent w "lineno" t1 (.int ln t2), ent w "instream" t3 fp, ent w "whitespace" t4 (.str (Str.ofString "\n\t\r ") t5), ent w "pushback" t6 (.ref pb)] 4
structure LamD where
  name : Str
  qual : Str
  params : Arguments
  body : Expr
  scope : Scope
  cl : List (Str × Addr)
  pm : Value
  c : Addr
  ctv : Value
noncomputable def lamO (q : LamD) : Obj := kla_obj q.name q.qual q.params q.body q.scope q.cl q.pm q.c q.ctv
/-- the signs still to come, as they lie in the list -/
noncomputable def sigs (l : List (Nat × Tok)) : List Value := (l.map fun c => Value.str ⟨#[c.1]⟩ c.2).reverse
noncomputable def lstS (l : List (Nat × Tok)) (n : Nat) : Obj := W.listOf (sigs l).toArray n
theorem sigs_cons (c : Nat × Tok) (r : List (Nat × Tok)) : sigs (c :: r) = sigs r ++ [.str ⟨#[c.1]⟩ c.2] := by simp [sigs]
theorem sigs_len (l : List (Nat × Tok)) : (sigs l).length = l.length := by simp [sigs]
/-- what the read of a lexer's stream gives -/
inductive RdC (F cl S : Addr) (q : LamD) (ocl oc : Obj) : List (Nat × Tok) → Nat → Value → List (Addr × Obj) → Prop
  | nil (n : Nat) (u : Tok) : RdC F cl S q ocl oc [] n (.str ⟨#[]⟩ u) [(F, lamO q), (q.c, oc), (cl, ocl), (S, lstS [] n)]
  | cons (c : Nat × Tok) (r : List (Nat × Tok)) (n : Nat) : RdC F cl S q ocl oc (c :: r) n (.str ⟨#[c.1]⟩ c.2) [(F, lamO q), (q.c, oc), (cl, ocl), (S, lstS r (n + 1))]
/-- what the read of a lexer's stream does -/
noncomputable def ReadC (prog : Program) (w : World) (K : Frag) (p : Program) (loose : List Str) (mean : ExcName → Option Value) (mg mb : Str → Option Value) (F cl S : Addr) (q : LamD) (ocl oc : Obj) : Prop :=
  ∀ (l : List (Nat × Tok)) (n : Nat) (t : Tok), l.length ≤ 5000 → Ctr prog w K p loose mean mg mb 2 20 F [.int 1 t] [(F, lamO q), (q.c, oc), (cl, ocl), (S, lstS l n)] (RdC F cl S q ocl oc l n) noErr noErrN
noncomputable def tabO (a b : Nat) (c : Addr) : Obj := tabObj #[rawInt a, rawInt b, .ref c]
/-- the table of the nested codes: before the first lambda, and after it -/
noncomputable def Tabs (P a b : Nat) (tl : List (Addr × Obj)) : Prop :=
  tl = [(P, tabObj #[])] ∨ ∃ c oc vs t, P < c ∧ tl = [(P, tabO a b c), (c, oc)] ∧ oc.data = .fields vs ∧ vs[1]? = some (.str (Str.ofString "_law_lexer.<locals>.<lambda>") t)
/-- a lexer: the addresses and the objects that stay -/
structure Lx where
  (x dx pb y dy F cl S : Addr)
  q : LamD
  (oc ocl ody : Obj)
  (k1 k3 k4 k5 k6 : Tok)
/-- the objects of a lexer that stay -/
noncomputable def Lx.fix (lx : Addr) (z : Lx) : List (Addr × Obj) := [(z.x, instObj lx z.dx), (z.F, lamO z.q), (z.q.c, z.oc), (z.y, instObj lx z.dy), (z.dy, z.ody), (z.cl, z.ocl)]
noncomputable def Lx.own (lx : Addr) (z : Lx) (od opb : Obj) (l : List (Nat × Tok)) (n : Nat) : List (Addr × Obj) := (z.dx, od) :: (z.pb, opb) :: (z.S, lstS l n) :: z.fix lx
/-- the fields of a lexer in line ln -/
noncomputable def Lx.od (w : World) (z : Lx) (ln : Int) (t : Tok) : Obj := lexD w ln (.ref z.y) z.pb z.k1 t z.k3 z.k4 z.k5 z.k6
noncomputable def strmD (w : World) (F : Addr) (v1 v2 v3 v4 : Value) (t1 t2 t3 t4 t5 : Tok) : Obj :=
  dictOf [ent w "lineno" t1 v1, ent w "instream" t2 v2, ent w "whitespace" t3 v3, ent w "pushback" t4 v4, ent w "read" t5 (.ref F)] 5
inductive IsStrD (w : World) (F : Addr) (o : Obj) : Prop
  | mk (v1 v2 v3 v4 : Value) (t1 t2 t3 t4 t5 : Tok) (e : o = strmD w F v1 v2 v3 v4 t1 t2 t3 t4 t5) : IsStrD w F o
inductive IsCode (ql : Str) (oc : Obj) : Prop
  | mk (vs : Array Value) (t : Tok) (h1 : oc.data = .fields vs) (h2 : vs[1]? = some (.str ql t)) : IsCode ql oc
/-- the order of a lexer's addresses (over Nat: the walk's arithmetic wants it so) -/
noncomputable def Ord (S cl dy y f c dx x pb : Nat) : Prop := (S < cl ∨ cl < S) ∧ S < dy ∧ cl < dy ∧ dy < y ∧ y < f ∧ f < dx ∧ dx < x ∧ x < pb ∧ c < f ∧ (c < S ∧ c < cl ∨ y < c)
structure Lx.Ok (prog : Program) (w : World) (K : Frag) (p : Program) (loose : List Str) (mean : ExcName → Option Value) (mg mb : Str → Option Value) (z : Lx) : Prop where
  nd : Ord z.S z.cl z.dy z.y z.F z.q.c z.dx z.x z.pb
  strD : IsStrD w z.F z.ody
  code : IsCode (Str.ofString "_law_lexer.<locals>.<lambda>") z.oc
  read : ReadC prog w K p loose mean mg mb z.F z.cl z.S z.q z.ocl z.oc
theorem capture2 {M : Model} {A : Around} {Q : Flow → Shared → Prop} {E : Value → Shared → Prop} {s : Shared} {env : Env} {s0 st : Stmt} {t : Expr} {ps : Arguments} {bd : Expr} {sc : Scope} {pos pos2 : Pos} {rest : List Stmt} (R : Arguments → Expr → Scope → Prop)
    (hr : R ps bd sc) (h : R ps bd sc → wpAny M A (execs (s0 :: st :: .Assign [t] (.Lambda ps bd sc pos) pos2 :: rest) env) Q E s) : wpAny M A (execs (s0 :: st :: .Assign [t] (.Lambda ps bd sc pos) pos2 :: rest) env) Q E s := h hr
section
variable {z : Lx} {lx : Addr} {od opb : Obj} {l : List (Nat × Tok)} {n : Nat} {rest : List (Addr × Obj)}
theorem Lx.mem_x : (z.x, instObj lx z.dx) ∈ z.own lx od opb l n := .tail _ (.tail _ (.tail _ (.head _)))
theorem Lx.mem_dx : (z.dx, od) ∈ z.own lx od opb l n := .head _
theorem Lx.mem_pb : (z.pb, opb) ∈ z.own lx od opb l n := .tail _ (.head _)
theorem Lx.mem_xa : (z.x, instObj lx z.dx) ∈ z.own lx od opb l n ++ rest := List.mem_append_left _ Lx.mem_x
theorem Lx.mem_dxa : (z.dx, od) ∈ z.own lx od opb l n ++ rest := List.mem_append_left _ Lx.mem_dx
theorem Lx.mem_pba : (z.pb, opb) ∈ z.own lx od opb l n ++ rest := List.mem_append_left _ Lx.mem_pb
end
theorem news_swap {g h : Heap} {L : Addr} {a b : List (Addr × Obj)} (N : News g L h (a ++ b)) : News g L h (b ++ a) := fun q hq => N q ((List.mem_append.mp hq).elim (List.mem_append_right a) (List.mem_append_left b))
theorem news_fst {g h : Heap} {L : Addr} {a b : List (Addr × Obj)} (N : News g L h (a ++ b)) : News g L h a := fun q hq => N q (List.mem_append_left b hq)
/-- what the stream's read changes is none of the rest -/
theorem Ord.rd {S cl dy y f c dx x pb : Nat} (nd : Ord S cl dy y f c dx x pb) {a : Nat} (ha : f < a ∨ a = y ∨ a = dy) : a ∉ [f, c, cl, S] := by
  unfold Ord at nd
  obtain ⟨-, b1, b2, b3, b4, -, -, -, b8, b9⟩ := nd
  have k1 := Nat.lt_trans b3 b4
  have hle : f < a → a ∉ [f, c, cl, S] := fun h hm => by
    simp only [List.mem_cons, List.not_mem_nil, or_false] at hm
    rcases hm with rfl | rfl | rfl | rfl
    · exact Nat.lt_irrefl _ h
    · exact Nat.lt_irrefl _ (Nat.lt_trans h b8)
    · exact Nat.lt_irrefl _ (Nat.lt_trans h (Nat.lt_trans b2 k1))
    · exact Nat.lt_irrefl _ (Nat.lt_trans h (Nat.lt_trans b1 k1))
  rcases ha with h | rfl | rfl
  · exact hle h
  · intro hm
    simp only [List.mem_cons, List.not_mem_nil, or_false] at hm
    rcases hm with rfl | rfl | rfl | rfl
    · exact Nat.lt_irrefl _ b4
    · rcases b9 with h | h
      · exact Nat.lt_irrefl _ (Nat.lt_trans h.1 (Nat.lt_trans b1 b3))
      · exact Nat.lt_irrefl _ h
    · exact Nat.lt_irrefl _ (Nat.lt_trans b2 b3)
    · exact Nat.lt_irrefl _ (Nat.lt_trans b1 b3)
  · intro hm
    simp only [List.mem_cons, List.not_mem_nil, or_false] at hm
    rcases hm with rfl | rfl | rfl | rfl
    · exact Nat.lt_irrefl _ k1
    · rcases b9 with h | h
      · exact Nat.lt_irrefl _ (Nat.lt_trans h.1 b1)
      · exact Nat.lt_irrefl _ (Nat.lt_trans h b3)
    · exact Nat.lt_irrefl _ b2
    · exact Nat.lt_irrefl _ b1
/-- what lies behind a lexer, or ahead of it, is none of its objects -/
theorem Lx.part {z : Lx} {lx : Addr} {od opb : Obj} {l : List (Nat × Tok)} {n : Nat} {a : Nat} (nd : Ord z.S z.cl z.dy z.y z.F z.q.c z.dx z.x z.pb) (h : @LT.lt Nat _ z.pb a ∨ @LT.lt Nat _ a z.S ∧ @LT.lt Nat _ a z.cl ∧ @LT.lt Nat _ a z.q.c) : (a : Addr) ∉ (z.own lx od opb l n).map (·.1) := by
  have k : ∀ b ∈ ([z.dx, z.pb, z.S, z.x, z.F, z.q.c, z.y, z.dy, z.cl] : List Nat), @LE.le Nat _ b z.pb ∧ (@LE.le Nat _ z.S b ∨ @LE.le Nat _ z.cl b ∨ @LE.le Nat _ z.q.c b) := by
    unfold Ord at nd
    obtain ⟨-, b1, b2, b3, b4, b5, b6, b7, b8, -⟩ := nd
    have c7 := Nat.le_of_lt b7
    have c6 := Nat.le_trans (Nat.le_of_lt b6) c7
    have c5 := Nat.le_trans (Nat.le_of_lt b5) c6
    have c4 := Nat.le_trans (Nat.le_of_lt b4) c5
    have c3 := Nat.le_trans (Nat.le_of_lt b3) c4
    have d1 := Nat.le_of_lt b1
    have d2 := Nat.le_trans d1 (Nat.le_of_lt b3)
    have d3 := Nat.le_trans d2 (Nat.le_of_lt b4)
    have d4 := Nat.le_trans d3 (Nat.le_of_lt b5)
    have d5 := Nat.le_trans d4 (Nat.le_of_lt b6)
    intro b hb
    simp only [List.mem_cons, List.not_mem_nil, or_false] at hb
    rcases hb with rfl | rfl | rfl | rfl | rfl | rfl | rfl | rfl | rfl
    · exact ⟨c6, .inl d4⟩
    · exact ⟨Nat.le_refl _, .inl (Nat.le_trans d5 c7)⟩
    · exact ⟨Nat.le_trans d1 c3, .inl (Nat.le_refl _)⟩
    · exact ⟨c7, .inl d5⟩
    · exact ⟨c5, .inl d3⟩
    · exact ⟨Nat.le_trans (Nat.le_of_lt b8) c5, .inr (.inr (Nat.le_refl _))⟩
    · exact ⟨c4, .inl d2⟩
    · exact ⟨c3, .inl d1⟩
    · exact ⟨Nat.le_trans (Nat.le_of_lt b2) c3, .inr (.inl (Nat.le_refl _))⟩
  intro hm
  obtain ⟨k1, k2⟩ := k a hm
  rcases h with h | ⟨h1, h2, h3⟩
  · exact Nat.lt_irrefl _ (Nat.lt_of_lt_of_le h k1)
  · rcases k2 with k2 | k2 | k2
    · exact Nat.lt_irrefl _ (Nat.lt_of_lt_of_le h1 k2)
    · exact Nat.lt_irrefl _ (Nat.lt_of_lt_of_le h2 k2)
    · exact Nat.lt_irrefl _ (Nat.lt_of_lt_of_le h3 k2)

-- part pnext
section
variable {prog : Program} {w : World} {A : Around} {E : Value → Shared → Prop} {s : Shared}
open Builtin
theorem slot_callit_next : Slot "callable_iterator" "__next__" "callable_iterator.__next__" :=
  .of (owner := "callable_iterator") (n := "__next__") (by rw [typeLookup_type, builtinLookup_eq_fast]; kernel_rfl) (by decide +kernel) (by decide +kernel) (by decide +kernel)
    (by first | exact .inl (by decide +kernel) | exact .inr (by decide +kernel)) (by rw [isSubtype_type]; kernel_rfl)
theorem entry_callit_next : entryFor table "callable_iterator.__next__" = some Builtin.«callable_iterator.__next__» := entryFor_of_tree (by kernel_rfl)
theorem args_callit_next (a : Value) : argsOk "callable_iterator.__next__" ⟨[a], []⟩ := by unfold argsOk; kernel_rfl
noncomputable def callO (m : Addr) (t : Tok) : Obj := { cls := .type "callable_iterator", data := .fields #[.ref m, .str ⟨#[]⟩ t, .bool false] }
noncomputable def endO : Obj := { cls := .type "callable_iterator", data := .fields #[.none, .none, .bool true] }
theorem borrows {m f : Addr} {self : Value} {of : Obj} {fd : FuncData} {Q : Bool → Shared → Prop} (hm : s.heap.get? m = some (methodObj (.ref f) self)) (hf : s.heap.get? f = some of) (hfd : of.data = .func fd) (h : Q true s) :
    wpAny (model prog w) A (borrowsExactly (.ref m)) Q E s := by
  unfold borrowsExactly
  refine wpAny_bind (wpAny_load hm ?_)
  show wpAny _ _ (do match (← load f).data with | .func _ => pure true | _ => pure false) _ _ _
  refine wpAny_bind (wpAny_load hf ?_)
  rw [hfd]
  exact wpAny_pure h
theorem borrowed_call {f : Value} {Q : Value → Shared → Prop}
    (hc : codeAny (model prog w) A (.call f ⟨[], []⟩) (fun r s' => match r with | .ok (.ret v) => Q v s' | .ok _ => False | .error e => E e s') s) : wpAny (model prog w) A (callBorrowed f) Q E s := fun Γ p hΓ => by
  show wpCode (model prog w) (Γ.enter (.call f ⟨[], []⟩) none p) (fun r s' => Sem.wp (model prog w) Γ _ _ _ p s') p s
  refine wpCode_mono (fun r s' h => ?_) (hc _ p rfl (hΓ.enter _ none p (by intro x; cases x)))
  cases r with
  | error e => exact h
  | ok fl => cases fl <;> first | exact h | exact h.elim
theorem next_call {I m f : Addr} {t : Tok} {self : Value} {of : Obj} {fd : FuncData} {Q : Option Value → Shared → Prop} (hh : A.handled = none)
    (hI : s.heap.get? I = some (callO m t)) (hm : s.heap.get? m = some (methodObj (.ref f) self)) (hf : s.heap.get? f = some of) (hfd : of.data = .func fd)
    (h : codeAny (model prog w) A.in1 (.call (.ref m) ⟨[], []⟩) (fun rr s₁ => ∃ x u, rr = .ok (.ret (.str x u)) ∧ s₁.heap.get? I = some (callO m t) ∧ s₁.heap.get? m = some (methodObj (.ref f) self) ∧ s₁.heap.get? f = some of ∧
      (x = ⟨#[]⟩ → ∀ h', Heap.ExtBut I s₁.heap h' → h'.get? I = some endO → Q none { s₁ with heap := h' }) ∧ (x ≠ ⟨#[]⟩ → Q (some (.str x u)) s₁)) s) :
    wpAny (model prog w) A (pyNext (.ref I)) Q E s := by
  unfold pyNext
  refine wpAny_bind (wpAny_attempt (wpAny_callSpecial?_slot (name := Str.ofString "__next__") (T := "callable_iterator") ⟨_, hI, rfl⟩ slot_callit_next
    (wpAny_call_entry slot_callit_next ⟨_, hI, rfl⟩ entry_callit_next ?_ (args_callit_next _))))
  show wpAny _ _ (field (.ref I) 2 >>= _) _ _ s
  refine wpAny_bind (wpAny_field hI rfl (x := .bool false) rfl ?_)
  show wpAny _ _ (if (Value.bool false == Value.bool true) = true then _ else _) _ _ s
  rw [if_neg (show ¬ ((Value.bool false == Value.bool true) = true) from Bool.false_ne_true)]
  show wpAny _ _ (field (.ref I) 0 >>= _) _ _ s
  refine wpAny_bind (wpAny_field hI rfl (x := .ref m) rfl ?_)
  refine wpAny_bind (wpAny_attempt ?_)
  unfold callOutOfASlot
  refine wpAny_bind (borrows hm hf hfd ?_)
  rw [if_pos rfl]
  refine borrowed_call (codeAny_mono h fun rr s₁ hr => ?_)
  obtain ⟨x, u, rfl, hI₁, hm₁, hf₁, hend, hgo⟩ := hr
  show wpAny _ _ (field (.ref I) 2 >>= _) _ _ s₁
  refine wpAny_bind (wpAny_field hI₁ rfl (x := .bool false) rfl ?_)
  show wpAny _ _ (if (Value.bool false == Value.bool true) = true then _ else _) _ _ s₁
  rw [if_neg (show ¬ ((Value.bool false == Value.bool true) = true) from Bool.false_ne_true)]
  show wpAny _ _ (field (.ref I) 1 >>= _) _ _ s₁
  refine wpAny_bind (wpAny_field hI₁ rfl (x := .str ⟨#[]⟩ t) rfl ?_)
  refine wpAny_bind (wpAny_holding (wpAny_eqBool_str ?_))
  by_cases hx : x = ⟨#[]⟩
  · rw [decide_eq_true hx.symm, Bool.not_true, if_neg Bool.false_ne_true]
    refine wpAny_bind (wpAny_rule (wpAny_bind ?_))
    show wpAny _ _ (field (.ref I) 0 >>= _) _ _ s₁
    refine wpAny_bind (wpAny_field hI₁ rfl (x := .ref m) rfl ?_)
    refine wpAny_bind (m := slotLetsGo _ _ _) ?_
    unfold slotLetsGo
    refine wpAny_bind (borrows hm₁ hf₁ hfd ?_)
    rw [if_pos rfl]
    refine wpAny_pure ?_
    have sf : ∀ {h : Heap} {o : Obj} {vs : Array Value} {i : Nat} {x : Value}, h.get? I = some o → o.data = .fields vs →
        (h.update I (Obj.mapFields (·.setIfInBounds i x))).get? I = some (o.mapFields (·.setIfInBounds i x)) := fun ho hd => Heap.get?_update_self _ ho (Obj.isFreed_of_fields (Obj.data_mapFields hd _))
    have d1 := Obj.data_mapFields (o := callO m t) (vs := #[.ref m, .str ⟨#[]⟩ t, .bool false]) rfl (·.setIfInBounds 0 .none)
    have d2 := Obj.data_mapFields d1 (·.setIfInBounds 1 .none)
    have g1 := sf (i := 0) (x := .none) hI₁ rfl
    have g2 := sf (i := 1) (x := .none) g1 d1
    refine wpAny_bind (wpAny_setField hI₁ rfl (by show 0 < 3; decide) ?_)
    refine wpAny_bind (wpAny_setField (s := { s₁ with heap := _ }) g1 d1 (by simp) ?_)
    refine wpAny_setField (s := { s₁ with heap := _ }) g2 d2 (by simp) ?_
    show wpAny _ _ (newExc (.type "StopIteration") [] >>= _) _ _ _
    refine wpAny_bind ?_
    simp only [newExc, newTuple]
    refine wpAny_bind (wpAny_newObj_type ?_ (by size_fits))
    refine wpAny_bind (m := firstArgMember _ _) (wpAny_of_eq (a := Value.none) (by first | rfl | (simp only [firstArgMember]; rfl)) ?_)
    refine wpAny_newObj_type ?_ (by size_fits)
    unfold raiseNew
    refine wpAny_bind (wpAny_handled ?_)
    rw [show A.in1.handled = none from hh]; dsimp only
    refine wpAny_bind (wpAny_pure (wpAny_throw ?_))
    refine wpAny_bind (wpAny_isInstance (T := "StopIteration") (b := true) ⟨_, Heap.get?_push_size _ rfl, rfl⟩ isSubtype_stop ?_)
    have g3 := sf (i := 2) (x := .bool true) g2 d2
    refine wpAny_pure (hend hx _ ?_ ?_)
    rotate_left
    · exact Heap.get?_push_of_some _ (Heap.get?_push_of_some _ g3)
    refine Heap.ExtBut.push (Heap.ExtBut.push (fun b o hb e => ?_) _) _
    have u : ∀ {h : Heap} {f : Obj → Obj}, (h.update I f).get? b = h.get? b := fun {h f} => (Heap.SameBut.update (h := h) (a := I) (f := f)).2 b hb
    rw [u, u, u]; exact e
  · rw [decide_eq_false (Ne.symm hx), Bool.not_false, if_pos rfl]
    exact wpAny_pure ⟨_, rfl, wpAny_pure (hgo hx)⟩
theorem next_ended {I : Addr} {Q : Option Value → Shared → Prop} (hh : A.handled = none) (hI : s.heap.get? I = some endO) (h : ∀ h', (∀ b o, s.heap.get? b = some o → h'.get? b = some o) → Q none { s with heap := h' }) :
    wpAny (model prog w) A (pyNext (.ref I)) Q E s := by
  unfold pyNext
  refine wpAny_bind (wpAny_attempt (wpAny_callSpecial?_slot (name := Str.ofString "__next__") (T := "callable_iterator") ⟨_, hI, rfl⟩ slot_callit_next
    (wpAny_call_entry slot_callit_next ⟨_, hI, rfl⟩ entry_callit_next ?_ (args_callit_next _))))
  show wpAny _ _ (field (.ref I) 2 >>= _) _ _ s
  refine wpAny_bind (wpAny_field hI rfl (x := .bool true) rfl ?_)
  show wpAny _ _ (if (Value.bool true == Value.bool true) = true then _ else _) _ _ s
  rw [if_pos (show ((Value.bool true == Value.bool true) = true) from by decide)]
  refine wpAny_bind (wpAny_rule (wpAny_bind ?_))
  show wpAny _ _ (newExc (.type "StopIteration") [] >>= _) _ _ _
  refine wpAny_bind ?_
  simp only [newExc, newTuple]
  refine wpAny_bind (wpAny_newObj_type ?_ (by size_fits))
  refine wpAny_bind (m := firstArgMember _ _) (wpAny_of_eq (a := Value.none) (by first | rfl | (simp only [firstArgMember]; rfl)) ?_)
  refine wpAny_newObj_type ?_ (by size_fits)
  unfold raiseNew
  refine wpAny_bind (wpAny_handled ?_)
  rw [show A.in1.handled = none from hh]; dsimp only
  refine wpAny_bind (wpAny_pure (wpAny_throw ?_))
  refine wpAny_bind (wpAny_isInstance (T := "StopIteration") (b := true) ⟨_, Heap.get?_push_size _ rfl, rfl⟩ isSubtype_stop ?_)
  exact wpAny_pure (h _ fun b o e => Heap.get?_push_of_some _ (Heap.get?_push_of_some _ e))
theorem method_calls : typeLookup (.type "method") "__call__" = pure (some (.builtin "method.__call__")) := by rw [typeLookup_type, builtinLookup_eq_fast]; kernel_rfl
theorem entry_iter2 : entryFor table "iter" = some Builtin.«iter» := entryFor_of_tree (by kernel_rfl)
theorem args_iter2 (a b : Value) : argsOk "iter" ⟨[a, b], []⟩ := by unfold argsOk; kernel_rfl
theorem iter_call {m : Addr} {t : Tok} {f self : Value} {Q : Value → Shared → Prop} (hm : s.heap.get? m = some (methodObj f self))
    (h : Q (.ref s.heap.objs.size) { s with heap := s.heap.push (callO m t) }) : wpAny (model prog w) A (call (.builtin "iter") [.ref m, .str ⟨#[]⟩ t]) Q E s := by
  refine call_function_entry (by decide +kernel) (by decide +kernel) entry_iter2 (args_iter2 _ _) ?_
  unfold Builtin.«iter»
  refine wpAny_bind (m := someArgs _ _ _ _) (wpAny_of_eq (a := [.ref m, .str ⟨#[]⟩ t]) (by rfl) ?_)
  dsimp only
  refine wpAny_bind (wpAny_specialOf (T := "method") (r := some (.builtin "method.__call__")) ⟨_, hm, rfl⟩ method_calls ?_)
  rw [if_neg (show ¬ ((some (Value.builtin "method.__call__")).isNone = true) from Bool.false_ne_true)]
  refine wpAny_bind (wpAny_rule (wpAny_bind ?_))
  unfold newFields
  refine wpAny_newObj_type (wpAny_pure ⟨_, rfl, h⟩) (by size_fits)
theorem slot_callit_iter : Slot "callable_iterator" "__iter__" "callable_iterator.__iter__" :=
  .of (owner := "callable_iterator") (n := "__iter__") (by rw [typeLookup_type, builtinLookup_eq_fast]; kernel_rfl) (by decide +kernel) (by decide +kernel) (by decide +kernel)
    (by first | exact .inl (by decide +kernel) | exact .inr (by decide +kernel)) (by rw [isSubtype_type]; kernel_rfl)
theorem entry_callit_iter : entryFor table "callable_iterator.__iter__" = some Builtin.«dict_keyiterator.__iter__» :=
  entryFor_alias (id' := "dict_keyiterator.__iter__") (by kernel_rfl) rfl (by decide +kernel) (by kernel_rfl)
theorem args_callit_iter (a : Value) : argsOk "callable_iterator.__iter__" ⟨[a], []⟩ := by unfold argsOk; kernel_rfl
theorem iter_self {I m : Addr} {t : Tok} {Q : Value → Shared → Prop} (hI : s.heap.get? I = some (callO m t)) (h : Q (.ref I) s) : wpAny (model prog w) A (pyIter (.ref I)) Q E s := by
  have hT : s.TypeIs (.ref I) "callable_iterator" := ⟨_, hI, rfl⟩
  refine wpAny_pyIter_slot hT slot_callit_iter (wpAny_call_entry slot_callit_iter hT entry_callit_iter ?_ (args_callit_iter _))
  exact wpAny_pure ⟨_, rfl, "callable_iterator", _, hT, slot_callit_next.lookup, h⟩
end

-- part pread
section
variable {prog : Program} {w : World} {K : Frag} {p : Program} {loose : List Str} {mean : ExcName → Option Value} {mg mb : Str → Option Value} {d u : Nat} {f : Addr} {own : List (Addr × Obj)} {post : Value → List (Addr × Obj) → Prop}
/-- the next of an iterator over a method that has a contract -/
theorem next_read {x : Addr} (C : Ctr prog w K p loose mean mg mb d u f [.ref x] own post noErr noErrN) (hpost : ∀ v own', post v own' → ∃ y t', v = .str y t')
    {A₀ : Around} {base h₀ : Heap} {outer : List Env} {env : Env} {L : Addr} {mm : Str → Option Value} {s : Shared} {rest : List (Addr × Obj)} {dp un : Nat} {gd : Option (List Code)} {I m : Addr} {t : Tok} {oc : Value} {od : Option Addr} {fd : FuncData} {osl : Array (Option Value)}
    {Q : Option Value → Shared → Prop} {E : Value → Shared → Prop}
    (B : Below A₀ base outer h₀) (F : Fr h₀ L s.heap mm) (X : K.In h₀) (T : Top p loose mean mg mb h₀) (D : KtsDicts (fsOf outer) h₀) (N : News h₀ L s.heap (own ++ ((I, callO m t) :: (m, methodObj (.ref f) (.ref x)) :: rest))) (hf : env.frame = some L) (hke : env.scope.kind = .function)
    (ho : K.lookup f = some ⟨oc, od, .func fd, osl⟩)
    (hd : dp + d < recursionLimit) (hu : un + 1 + u < cLine) (hap' : ∀ q ∈ ((I, callO m t) :: (m, methodObj (.ref f) (.ref x)) :: rest), q.1 ∉ own.map (·.1)) (hIr : ∀ q ∈ ((m, methodObj (.ref f) (.ref x)) :: rest), q.1 ≠ I)
    (item : ∀ y v own' h' tk', post (.str y v) own' → y ≠ ⟨#[]⟩ → Fr h₀ L h' mm → News h₀ L h' (own' ++ ((I, callO m t) :: (m, methodObj (.ref f) (.ref x)) :: rest)) → Q (some (.str y v)) { s with heap := h', toks := tk' })
    (done : ∀ v own' h' tk', post (.str ⟨#[]⟩ v) own' → Fr h₀ L h' mm → News h₀ L h' (own' ++ ((I, endO) :: (m, methodObj (.ref f) (.ref x)) :: rest)) → Q none { s with heap := h', toks := tk' }) :
    wpAny (model prog w) (mA dp un gd (env :: outer)) (pyNext (.ref I)) Q E s := by
  have hIn := N (I, callO m t) (List.mem_append_right _ (.head _))
  have hmn := N (m, methodObj (.ref f) (.ref x)) (List.mem_append_right _ (.tail _ (.head _)))
  refine next_call (of := ⟨oc, od, .func fd, osl⟩) (fd := fd) rfl hIn.1 hmn.1 (F.keep _ _ (X _ _ ho)) rfl ?_
  show codeAny _ (mA dp (un + 1) gd (env :: outer)) _ _ _
  refine method_call hmn.1 ?_
  refine ctr_code C B F X T D N hf hke hd hu hap' ?_
  intro v own' h' tk' hp F' N' hn
  obtain ⟨y, t', rfl⟩ := hpost v own' hp
  have hI' := N' (I, callO m t) (List.mem_append_right _ (.head _))
  have hm' := N' (m, methodObj (.ref f) (.ref x)) (List.mem_append_right _ (.tail _ (.head _)))
  refine ⟨y, t', rfl, hI'.1, hm'.1, F'.keep _ _ (X _ _ ho), ?_, fun hy => item y t' own' h' tk' hp hy F' N'⟩
  rintro rfl h2 hs hend
  refine done t' own' h2 tk' hp (fr_same F' hs hI'.2.1 hI'.2.2) fun q hq => ?_
  rcases List.mem_append.mp hq with hq | hq
  · have hne : q.1 ≠ I := by
      rcases hn q hq with e | e
      · exact fun e2 => hap' (I, callO m t) (.head _) (e2 ▸ e)
      · exact e (I, callO m t) (.head _)
    have z := N' q (List.mem_append_left _ hq)
    exact ⟨hs q.1 q.2 hne z.1, z.2⟩
  · rcases List.mem_cons.mp hq with rfl | hq
    · exact ⟨hend, hI'.2⟩
    · have z := N' q (List.mem_append_right _ (.tail _ hq))
      exact ⟨hs q.1 q.2 (hIr q hq) z.1, z.2⟩
theorem iter_callN {A : Around} {h₀ : Heap} {L m : Addr} {mm : Str → Option Value} {s : Shared} {news : List (Addr × Obj)} {t : Tok} {g self : Value} {Q E : Value → Shared → Prop} (F : Fr h₀ L s.heap mm) (N : News h₀ L s.heap news) (hm : (m, methodObj g self) ∈ news)
    (h : ∀ I h' t0, Fr h₀ L h' mm → News h₀ L h' ((I, callO m t0) :: news) → (∀ q ∈ news, q.1 < I) → Q (.ref I) { s with heap := h' }) : wpAny (model prog w) A (call (.builtin "iter") [.ref m, .str (Str.ofString "") t]) Q E s :=
  iter_call (N _ hm).1 (h _ _ t (F.push _) (N.push F _) fun q hq => Heap.lt_size (N q hq).1)
end

-- part pcomp
/-- what an element of a comprehension leaves -/
inductive EltEnd (h₀ : Heap) (L : Addr) (m : Str → Option Value) (s : Shared) (l : List (Addr × Obj)) (R : Value → Prop) : Value → Shared → Prop
  | mk {y : Value} (h : Heap) (tk : Nat) (F : Fr h₀ L h m) (N : News h₀ L h l) (r : R y) : EltEnd h₀ L m s l R y { s with heap := h, toks := tk }
section
open PyProof.Rows.LCg
variable {prog : Program} {w : World} {A : Around} {E : Value → Shared → Prop} {s : Shared} {h₀ : Heap} {L : Addr} {m : Str → Option Value} {env : Env}
/-- each turn of a comprehension gives one value, and changes nothing -/
theorem rest_map {elt : Expr} {x : Str} {scope : Scope} {cl : List (Str × Addr)} {S : List (Addr × Obj) → Prop} {P : Nat → Value → Prop} {Fin : List Value → List (Addr × Obj) → Prop} {news : List (Addr × Obj)} {n : Nat} (Rel : Nat → Value → Prop)
    (turn : ∀ i v ys I oI C oC D m₂ h tk (E' : Value → Shared → Prop), i < n → P i v → NsObj oC m₂ → m₂ x = some v → Fr h₀ L h m → News h₀ L h ((I, oI) :: (C, oC) :: (D, lst ys) :: news) → Off3 I C D news → ((@Ne Nat I C) ∧ (@Ne Nat I D) ∧ (@Ne Nat C D)) →
      wpAny (model prog w) A (eval elt (compEnvC scope cl C env)) (EltEnd h₀ L m { s with heap := h, toks := tk } ((I, oI) :: (C, oC) :: (D, lst ys) :: news) (Rel i)) E' { s with heap := h, toks := tk }) (hS : S news)
    (fin : ∀ ys, ys.length = n → (∀ i v, ys[i]? = some v → Rel i v) → Fin ys news) : CompRest prog w A h₀ L m env elt x scope cl s S P Fin n 0 [] news := by
  have key : ∀ (j i : Nat) (ys : List Value), i + j = n → ys.length = i → (∀ k v, ys[k]? = some v → Rel k v) → CompRest prog w A h₀ L m env elt x scope cl s S P Fin j i ys news := by
    intro j
    induction j with
    | zero => exact fun i ys hi hl hy => CompRest.zero (fin ys (by omega) hy)
    | succ j ih =>
      intro i ys hi hl hy
      refine CompRest.succ ?_
      intro v I oI C oC D m₂ h tk E' hv hC hx F N off ne
      refine wpAny_mono (turn i v ys I oI C oC D m₂ h tk E' (by omega) hv hC hx F N off ne) (fun y s₂ hq => ?_) fun _ _ e => e
      obtain ⟨h', tk', F', N', hr⟩ := hq
      refine ⟨h', tk', news, rfl, F', N', off, hS, ih (i + 1) _ (by omega) (by rw [List.length_append, hl]; rfl) ?_⟩
      intro k v hk
      rcases snoc_at hk with ⟨_, h1⟩ | ⟨h1, rfl⟩
      · exact hy k v h1
      · exact (h1.trans hl) ▸ hr
  exact key n 0 [] (by omega) rfl (fun k v h => by simp at h)
end
theorem list_strN {prog : Program} {w : World} {A : Around} {E : Value → Shared → Prop} {s : Shared} {h₀ : Heap} {L : Addr} {m : Str → Option Value} {x : Str} {t : Tok} {news : List (Addr × Obj)} {Q : Value → Shared → Prop} (hh : A.handled = none) (F : Fr h₀ L s.heap m) (N : News h₀ L s.heap news) (hsz : x.length ≤ sizeLine)
    (h : ∀ D cap h' tk (ys : List Value), Fr h₀ L h' m → News h₀ L h' ((D, W.listOf ys.toArray cap) :: news) → (∀ q ∈ news, q.1 < D) → CarriedAll ys ((signs x).map .str) → Q (.ref D) { s with heap := h', toks := tk }) :
    wpAny (model prog w) A (call (.type "list") [.str x t]) Q E s := by
  refine list_strD hh F N ?_ hsz
  intro h4 tk4 zs F4 N4 k4 e4 il4 np4 ca4
  have hne := np4.ne_locals F4
  obtain ⟨⟨cap, hD2⟩, hne4⟩ := np4
  refine h _ cap h4 tk4 zs F4 (fun q hq => ?_) (fun q hq => Heap.lt_size (N q hq).1) ca4
  rcases List.mem_cons.mp hq with rfl | hq
  · exact ⟨hD2, hne, e4⟩
  · exact N4 q hq

-- part pcomp2
section
open PyProof.Rows.LCg PySem.W
variable {prog : Program} {w : World} {A : Around} {E : Value → Shared → Prop} {s : Shared} {h₀ : Heap} {L : Addr} {m : Str → Option Value} {env : Env}
theorem news_tl {h : Heap} {news : List (Addr × Obj)} {p : Addr × Obj} (N : News h₀ L h (p :: news)) : News h₀ L h news := fun q hq => N q (.tail _ hq)
theorem pair_less {i n : Nat} (h : i < n) : n + 1 - (i + 1) < n + 1 - i := Nat.sub_lt_sub_left (Nat.lt_succ_of_lt h) (Nat.lt_succ_self i)
end
section
open PyProof.Rows.LCg PySem.W
variable {prog : Program} {w : World} {A : Around} {E : Value → Shared → Prop} {s : Shared} {h₀ : Heap} {L : Addr} {m : Str → Option Value} {env : Env}
end
section
variable {prog : Program} {w : World} {A : Around} {E : Value → Shared → Prop} {s : Shared} {env : Env} {h₀ : Heap} {Q : Flow → Shared → Prop}
theorem iter_listN {l : Addr} {its : Array Value} {nc : Nat} {m : Str → Option Value} {news : List (Addr × Obj)} {L : Addr} {Q : Value → Shared → Prop} {E : Value → Shared → Prop}
    (F : Fr h₀ L s.heap m) (N : News h₀ L s.heap news) (hl : (l, W.listOf its nc) ∈ news)
    (h : ∀ I oI h', IsLI l 0 oI → Fr h₀ L h' m → News h₀ L h' ((I, oI) :: news) → (∀ q ∈ news, q.1 < I) → Q (.ref I) { s with heap := h' }) : wpAny (model prog w) A (pyIter (.ref l)) Q E s :=
  iter_list F N ⟨_, (N _ hl).1, rfl, nc, rfl⟩ fun I oI h' hI F' N' l1 _ => h I oI h' hI F' N' l1
end

-- part pown
section
variable {M : Model} {A : Around} {E : Value → Shared → Prop} {s : Shared}
end
section
variable {prog : Program} {w : World} {A₀ : Around} {E : Value → Shared → Prop} {s' : Shared} {base g h : Heap} {outer : List Env} {L a e : Addr} {m : Str → Option Value} {name : Str} {scope : Scope} {cd : Value} {X : String}
  {hs : List ExceptHandler} {Q : Flow → Shared → Prop} {news : List (Addr × Obj)}
end

-- part plpg
theorem join_flat : ∀ xs : List Str, (Str.join ⟨#[]⟩ xs).cps.toList = xs.flatMap (·.cps.toList)
  | [] => rfl
  | [x] => by simp [Str.join]
  | x :: y :: r => by
    rw [show Str.join ⟨#[]⟩ (x :: y :: r) = x ++ ⟨#[]⟩ ++ Str.join ⟨#[]⟩ (y :: r) from rfl, Str.cps_append, Str.cps_append, Array.toList_append, Array.toList_append, join_flat (y :: r)]
    simp
theorem len_toList (x : Str) : x.length = x.cps.toList.length := by simp [Str.length]
/-- a list of signs, as the values that list() made of a text -/
theorem signs_vals : ∀ (l : List Nat) (ys : List Value), CarriedAll ys ((l.map fun c => (⟨#[c]⟩ : Str)).map .str) → ∃ q : List (Nat × Tok), q.map (·.1) = l ∧ ys.reverse = sigs q
  | [], ys, h => by
    cases h
    exact ⟨[], rfl, rfl⟩
  | c :: l, ys, h => by
    cases h with
    | cons h1 h2 =>
      obtain ⟨q, e1, e2⟩ := signs_vals l _ h2
      cases h1 with
      | str x t => exact ⟨(c, t) :: q, by rw [List.map_cons, e1], by rw [List.reverse_cons, e2, sigs_cons]⟩
theorem quoted_short (acc l : List Nat) : (quoted acc l).2.length ≤ l.length := by
  fun_induction quoted acc l <;> simp_all <;> omega
theorem bare_short (acc l : List Nat) : (bare acc l).2.length ≤ l.length := by
  fun_induction bare acc l <;> simp_all <;> omega
theorem token_short (l : List Nat) : (token l).2.length ≤ l.length ∧ ((token l).1 ≠ [] → (token l).2.length < l.length) := by
  fun_induction token l
  · simp
  · rename_i ih
    exact ⟨Nat.le_succ_of_le ih.1, fun h => Nat.lt_succ_of_lt (ih.2 h)⟩
  · have := quoted_short [] ‹_›
    exact ⟨Nat.le_succ_of_le this, fun _ => Nat.lt_succ_of_le this⟩
  · simp
  · rename_i d r' _ _
    have := bare_short [d] r'
    simp only [List.length_cons]
    exact ⟨by omega, fun _ => by omega⟩
  · rename_i c r _ _ _
    have := bare_short [c] r
    simp only [List.length_cons]
    exact ⟨by omega, fun _ => by omega⟩
-- part pat
theorem codeP_call_function {prog : Program} {w : World} {A : Around} {R : Result → Shared → Prop} {s : Shared} {a : Addr} {args : Args} {o : Obj} {fd : FuncData} {body : List Stmt} (hroom : A.depth < recursionLimit)
    (ho : s.heap.get? a = some o)
    (hd' : o.data = .func fd) (hco : fd.scope.isCoroutine = false) (hgen : fd.scope.isGenerator = false) (hbody : fd.body = .stmts body) (hcd : s.heap.CodeRec fd.code fd.qualname)
    (h : wpAny (model prog w) A.in1 (bindArgs fd args) (fun binds s₁ =>
      wpAny (model prog w) A.in1 (newFunctionEnv fd.scope fd.globals fd.closure binds (fd.qualname ++ ".<locals>.") (some a) fd.code none fd.builtins)
        (fun env s₂ => s₂.heap.NoLimit ∧ codeP (model prog w) A (.func body env) R s₂) (fun e s' => R (.error e) s') s₁) (fun e s' => R (.error e) s') s) :
    codeP (model prog w) A (.call (.ref a) args) R s := by
  refine codeP_of_tree ?_
  show wpP _ A.in1 (callAny (.ref a) args) _ _ s
  refine wpP_bindA (m := load a) (wpAny_load ho ?_)
  obtain ⟨c, oc, vs, tq, hc, hoc, hdc, hq⟩ := hcd
  rw [hd']
  dsimp only
  unfold callFunction
  rw [hco, hgen, hbody, hc]
  rw [hc] at h
  refine wpP_bindA (m := field (.ref c) 1) (wpAny_field hoc hdc hq (wpP_bindA (wpAny_pure ?_)))
  exact wpP_bindA (wpAny_mono h (fun binds s₁ h₁ => wpP_bindA (wpAny_mono h₁ (fun env s₂ h₂ => wpP_bindA (wpAny_enterFrame h₂.1 hroom
    (wpP_pure (And.intro rfl h₂.2)))) fun _ _ h' => h')) fun _ _ h' => h')
/-- the law's own def, called with its heap in sight -/
theorem lawT_at {prog : Program} {w : World} {K : Frag} {p : Program} {loose : List Str} {mean : ExcName → Option Value} {mg mb : Str → Option Value} {f : Addr} {args : List Value} {own : List (Addr × Obj)}
    {post : Value → List (Addr × Obj) → Prop} {o : Obj} {name qual : Str} {params : Arguments} {body : List Stmt} {scope : Scope} {dV kV doc pm cdv ct : Value} {an : Option Addr} {binds : List (Str × Value)}
    {dp un : Nat} {gd : Option (List Code)} {fr : List Env} {base : Heap} {s : Shared} {R : Result → Shared → Prop}
    (BG : Below (mA dp un gd fr) base fr (hid s.heap own)) (XB : K.In base) (TB : Top p loose mean mg mb base) (DG : KtsDicts (fsOf fr) (hid s.heap own)) (hd : dp < recursionLimit)
    (hown : ∀ q ∈ own, s.heap.get? q.1 = some q.2) (hret : ∀ v s' own', RetT (fsOf fr) s own s' own' → post v own' → R (.ok (.ret v)) s')
    (ho : s.heap.get? f = some o) (hdata : o.data = .func (fnOf name qual params body scope dV kV doc pm an cdv ct)) (hcd : s.heap.CodeRec cdv qual)
    (hbind : ∀ s, BindsTo s (fnOf name qual params body scope dV kV doc pm an cdv ct) ⟨args, []⟩ binds) (hkind : (binds.all fun y => scope.names.lookup y.1 == some .local || scope.names.lookup y.1 == some .cell) = true)
    (hnd : ((cellsFrom 0 scope.names []).map (·.1)).Nodup)
    (hco : scope.isCoroutine = false) (hgen : scope.isGenerator = false) (hk : scope.kind = .function)
    (h : ∀ (g : Heap) (L : Addr) (h₁ : Heap) (tk : Nat) (cells : List (Addr × Obj)), g = hid s.heap own → Below (mA dp un gd fr) base fr g → Fr g L h₁ (bindL (envOfC qual scope L f cdv).kindOf binds fun _ => none) → News g L h₁ (cells ++ own) →
      CellsAre (bindC (envOfC qual scope L f cdv).kindOf binds fun _ => none) (cellsFrom (L + 1) scope.names []) cells → K.In base → Top p loose mean mg mb base → K.In g → Top p loose mean mg mb g → (∀ q ∈ own, q.1 < L) → KtsDicts (fsOf fr) g →
      wpP (model prog w) ((mA dp un gd fr).deeper (envOfC qual scope L f cdv)) (execs body (envOfC qual scope L f cdv))
        (fun fl s' => LvT s (fsOf fr) g post (match fl with | .ret v => v | _ => .none) s') noE
        { s with heap := h₁, toks := tk }) : codeP (model prog w) (mA dp un gd fr) (.call (.ref f) ⟨args, []⟩) R s := by
  have XG : K.In (hid s.heap own) := XB.keeps BG.stays
  have TG : Top p loose mean mg mb (hid s.heap own) := TB.keeps BG.stays
  have hl : s.heap.NoLimit := TG.nolimit.keeps fun b o e => of_hideAll _ e
  refine codeP_call_function hd ho hdata hco hgen rfl hcd (hbind s _ _ _ _ ?_)
  refine wpAny_newFunctionEnv_cells hk (kindsX hkind _) fun env' he s' x => ?_
  subst he
  refine ⟨hl.keeps x.toInCall.keep, codeP_func ?_⟩
  obtain ⟨h₁, tk, rfl, _⟩ := x.done
  have hk₁ := x.toInCall.keep
  obtain ⟨cells, NC, Y⟩ := Cl.news (h₀ := s.heap) (Nat.le_refl _) fun n c hm => ⟨x.cell n c (lookup_of_mem_nodup (cellsFrom_names scope.names 0 (s.heap.objs.size + 1) [] [] rfl ▸ hnd) hm), x.above n c hm⟩
  refine wpP_mono (h _ s.heap.objs.size h₁ tk cells rfl BG ⟨x.toInCall.ns, fun b o e => hk₁ b o (of_hideAll _ e), Nat.le_of_eq (hideAll_size _ _)⟩ (fun q hq => ?_) Y XB TB XG TG (fun q hq => Heap.lt_size (hown q hq)) DG) (fun fl s' hl => ?_) fun e s' y => y.elim
  · rcases List.mem_append.mp hq with hq | hq
    · refine ⟨(NC q hq).1, (NC q hq).2.1, ?_⟩
      cases z : (hid s.heap own).get? q.1 with
      | none => rfl
      | some o => have := of_hideAll _ z; rw [(NC q hq).2.2] at this; cases this
    · exact ⟨hk₁ _ _ (hown q hq), Nat.ne_of_lt (Heap.lt_size (hown q hq)), hideAll_none _ (List.mem_map_of_mem hq)⟩
  · obtain ⟨own', hr, hp⟩ := hl.ret
    exact hret _ _ _ hr hp
theorem good_law {c : ClaimW} {cl : Str → Option Addr} {mean : ExcName → Option Value} {args : List WData} {s₁ s' : Shared} {tabs : List (Addr × Addr)} {v : Value} {d : WData} {as : List Addr} (hT : TabsAt tabs s₁.heap) (hr : ∀ x, c.raises args x = false)
    (r2 : ReadsW c.records cl s'.heap v d as) (r3 : c.post args d args = true) (r5 : c.unshared = true → as.Nodup ∧ ∀ a ∈ as, s₁.heap.get? a = none)
    (keep : ∀ b o, b ∉ tabs.map (·.2) → s₁.heap.get? b = some o → s'.heap.get? b = some o) (hgr : GrownAll tabs s'.heap) (hos : s'.os = s₁.os) (hg : AllBare s'.gens) : GoodWG c cl mean args s₁ (.ok (.ret v)) s' := by
  have grown : ∀ b o, b ∈ tabs.map (·.2) → s₁.heap.get? b = some o → isCodeTable s₁.heap b ∧ o = tabObj #[] ∧ ∃ ps, s'.heap.get? b = some (tabObj ps) := fun b o hb e => by
    obtain ⟨q, hq, rfl⟩ := List.mem_map.mp hb
    have e2 := (hT q hq).2
    rw [e] at e2
    exact ⟨((hT q hq).1.tab (hT q hq).2).isCodeTable, Option.some.inj e2, hgr.get q hq⟩
  refine ⟨.inl ⟨v, d, as, rfl, hr, r2, r3, r5⟩, ⟨fun b o e => ?_, fun b o e => ?_⟩, hos, hg⟩
  · by_cases hb : b ∈ tabs.map (·.2)
    · obtain ⟨ht, rfl, ps, hP⟩ := grown b o hb e
      exact .inr (.inl ⟨ht, rfl, #[], ps, rfl, by rw [Array.empty_append]; exact hP⟩)
    · exact .inl (keep b o hb e)
  · by_cases hb : b ∈ tabs.map (·.2)
    · obtain ⟨_, _, ps, hP⟩ := grown b o hb e
      exact ⟨_, hP⟩
    · exact ⟨o, keep b o hb e⟩
theorem slice_anyN {prog : Program} {w : World} {A : Around} {E : Value → Shared → Prop} {s : Shared} {h₀ h : Heap} {tk : Nat} {L l : Addr} {m : Str → Option Value} {news : List (Addr × Obj)} {value slice : Expr} {its : Array Value} {lo hi : Option Int} {vl vu : Value} {Q : Value → Shared → Prop}
    (F : Fr h₀ L h m) (N : News h₀ L h news) (hl : h.IsList l its) (pl : IsPart vl lo) (pu : IsPart vu hi) (hz : its.size ≤ sizeLine)
    (k : ∀ D h', Fr h₀ L h' m → News h₀ L h' ((D, W.listOf (slicePick its lo hi none) 0) :: news) → (∀ p ∈ news, p.1 < D) → Q (.ref D) { s with heap := h', toks := tk })
    (hs : subscripted slice false (.ref l) (.ref h.objs.size) = operate [.ref h.objs.size, .ref l] (getItem (.ref l) (.ref h.objs.size))) (ht : ∀ r, letTemporaryGo value (.ref l) r = pure ()) :
    wpAny (model prog w) A (subscriptTail value slice (.ref l) (.ref h.objs.size)) Q E { s with heap := h.push { cls := .type "slice", data := .fields #[vl, vu, .none] }, toks := tk } :=
  kmk_slice (s := { s with heap := h, toks := tk }) F N hl pl pu k hs ht hz
noncomputable def Good (n : Nat) (y : Str) : Prop := y.length ≤ n ∧ PyData.strOk y = true
theorem good_of {n : Nat} {y : Str} : Good n y ↔ y.cps.toList.length ≤ n ∧ ∀ c ∈ y.cps.toList, c < 0x110000 := by
  unfold Good PyData.strOk
  rw [show y.length = y.cps.toList.length from by simp [Str.length], ← Array.all_toList, List.all_eq_true]
  simp only [decide_eq_true_eq]
theorem Good.up {n k : Nat} {x : Str} (hx : Good n x) (h : n ≤ k) : Good k x := ⟨Nat.le_trans hx.1 h, hx.2⟩
theorem good_flat {n : Nat} : ∀ ss : List Str, (∀ y ∈ ss, Good n y) → (ss.flatMap (·.cps.toList)).length ≤ n * ss.length ∧ ∀ c ∈ ss.flatMap (·.cps.toList), c < 0x110000
  | [], _ => ⟨Nat.le_refl _, fun _ h => nomatch h⟩
  | y :: ss, h => by
    have h1 := good_of.mp (h y (List.mem_cons_self ..))
    obtain ⟨h2, h3⟩ := good_flat ss fun z hz => h z (List.mem_cons_of_mem _ hz)
    rw [List.flatMap_cons, List.length_append, List.length_cons, Nat.mul_succ]
    refine ⟨by omega, fun c hc => ?_⟩
    rcases List.mem_append.mp hc with h | h
    · exact h1.2 c h
    · exact h3 c h
theorem Good.join {n k : Nat} {ss : List Str} (h : ∀ y ∈ ss, Good n y) (hk : ss.length ≤ k) : Good (n * k) (Txt.join (Str.ofString "") ss) := by
  have h0 : Str.ofString "" = ⟨#[]⟩ := by decide +kernel
  obtain ⟨h1, h2⟩ := good_flat ss h
  rw [good_of, h0, show Txt.join ⟨#[]⟩ ss = Str.join ⟨#[]⟩ ss from StrLaws.glued_eq_join _ _, join_flat]
  exact ⟨Nat.le_trans h1 (Nat.mul_le_mul_left _ hk), h2⟩
/-- behind a catching def, where no frame of a caller is there to turn -/
theorem turn_nil {g g' h : Heap} {L : Addr} {m : Str → Option Value} {news : List (Addr × Obj)} (T : KtsTurn (fsOf []) g g') (F : Fr g' L h m) (N : News g' L h news) : Fr g L h m ∧ News g L h news :=
  ⟨⟨F.ns, fun b o e => F.keep b o (T.other b o e (fun h => nomatch h)), by rw [← T.size]; exact F.above⟩, fun q hq => ⟨(N q hq).1, (N q hq).2.1, turn_none T (N q hq).2.2⟩⟩
section
variable {prog : Program} {w : World} {K : Frag} {p : Program} {loose : List Str} {mean : ExcName → Option Value} {mg mb : Str → Option Value} {d u : Nat} {f : Addr} {args : List Value} {own : List (Addr × Obj)}
  {post post' : Value → List (Addr × Obj) → Prop}
theorem CtrT.mono (C : CtrT prog w K p loose mean mg mb d u f args own post) (h : ∀ v own', post v own' → post' v own') : CtrT prog w K p loose mean mg mb d u f args own post' :=
  fun dp un gd fr base s R B X T D hd hu ho hr => C dp un gd fr base s R B X T D hd hu ho fun v s' own' r hp => hr v s' own' r (h v own' hp)
theorem Ctr.mono {err : Value → List Value → Prop} {errN : String → Prop} (C : Ctr prog w K p loose mean mg mb d u f args own post err errN) (h : ∀ v own', post v own' → post' v own') : Ctr prog w K p loose mean mg mb d u f args own post' err errN :=
  fun dp un gd fr base s R B X T D hd hu ho hr he => C dp un gd fr base s R B X T D hd hu ho (fun v s' own' r hp => hr v s' own' r (h v own' hp)) he
end

-- part pctx
/-! that a raised exception has no context: the library's stations do not tell it, and a raise within a handler looks at it -/
noncomputable def CtxNone (e : Addr) (h : Heap) : Prop := ∃ oe vs, h.get? e = some oe ∧ oe.data = .fields vs ∧ vs[2]? = some Value.none
section
variable {M : Model} {A : Around} {E : Value → Shared → Prop} {s : Shared} {base : Heap} {env : Env} {outer : List Env} {L e : Addr} {cls a0 : Value} {Q : Unit → Shared → Prop}
theorem ctx_set {h : Heap} {vs : Array Value} {oe : Obj} {x : Value} (he : h.get? e = some oe) (hd : oe.data = .fields vs) (h2 : vs[2]? = some Value.none) : CtxNone e (h.update e (Obj.mapFields (·.setIfInBounds 1 x))) :=
  ⟨_, _, Heap.get?_update_self _ he (Obj.isFreed_of_fields (Obj.data_mapFields hd _)), Obj.data_mapFields hd _, by rw [Array.getElem?_setIfInBounds_ne (by decide)]; exact h2⟩
theorem ctx_other {h : Heap} {T : Addr} {f : Obj → Obj} (hne : T ≠ e) (h2 : CtxNone e h) : CtxNone e (h.update T f) := by
  obtain ⟨oe, vs, he, r⟩ := h2
  exact ⟨oe, vs, (Heap.get?_update_other _ _ hne).trans he, r⟩
theorem ctx_keeps {h h' : Heap} (k : ∀ b o, h.get? b = some o → h'.get? b = some o) (h2 : CtxNone e h) : CtxNone e h' := by
  obtain ⟨oe, vs, he, r⟩ := h2
  exact ⟨oe, vs, k _ _ he, r⟩
/-- the objects that a station lays aside: the frames get slots, one traceback is added, the exception points to it -/
theorem ctx_entry {oe : Obj} {vs : Array Value} {head : Value} {hadNext : Bool} (hfr : A.frames = some (env :: outer)) (hl : s.heap.FunFrames base (env :: outer)) (hf : env.frame = some L)
    (he : s.heap.get? e = some oe) (hd : oe.data = .fields vs) (hsz : 1 < vs.size) (h2 : vs[2]? = some Value.none)
    (h : ∀ h₁ pl, IsPlace pl → Heap.SlotsOnly ((env :: outer).filterMap (·.frame)) s.heap h₁ → h₁.get? e = some oe →
      CtxNone e ((h₁.push { cls := .type "traceback", dict := none, data := .fields ([head, .ref L, .none, rawInt L, .none] ++ (if pl.isEmpty then List.replicate 6 Value.none else pl)).toArray }).update e (Obj.mapFields (·.setIfInBounds 1 (Value.ref h₁.objs.size)))) →
      Q () { s with heap := (h₁.push { cls := .type "traceback", dict := none, data := .fields ([head, .ref L, .none, rawInt L, .none] ++ (if pl.isEmpty then List.replicate 6 Value.none else pl)).toArray }).update e (Obj.mapFields (·.setIfInBounds 1 (Value.ref h₁.objs.size))) }) :
    wpAny M A (do let a ← frameOf env; let pl ← entryPlaceOf L hadNext; let b ← EntryCells.newEntry head a .none (rawInt L) .none pl; setField (.ref e) 1 b) Q E s := by
  have hene : e ∉ (env :: outer).filterMap (·.frame) := fun hm => by
    obtain ⟨_, o, ho, hnf⟩ := hl.mem hm
    cases he.symm.trans ho
    exact hnf vs hd
  refine wpAny_bind (wpAny_frameOf_fun hfr hl hf fun h₁ hs₁ => wpAny_bind (wpAny_entryPlaceOf fun pl hpl => ?_))
  have e₁ : h₁.get? e = some oe := (hs₁.2.1 e hene).trans he
  unfold EntryCells.newEntry newFields
  refine wpAny_bind (wpAny_newObj_type (wpAny_setField (Heap.get?_push_of_some _ e₁) hd hsz ?_) (hpl.sizeOk5 _ _ _ _ _))
  exact h h₁ pl hpl hs₁ e₁ (ctx_set (Heap.get?_push_of_some _ e₁) hd h2)
/-- what stands behind a station's entry -/
theorem ctx_noted {h h₁ : Heap} {oe : Obj} {vs : Array Value} {head : Value} {pl : List Value} (hl : h.FunFrames base (env :: outer)) (he : h.get? e = some oe) (hkb : base.StaysIn h) (hen : base.get? e = none) (hd : oe.data = .fields vs) (hsz : 1 < vs.size) (h0 : vs[0]? = some a0)
    (hpl : IsPlace pl) (hs₁ : Heap.SlotsOnly ((env :: outer).filterMap (·.frame)) h h₁) (e₁ : h₁.get? e = some oe) :
    Heap.HeldW base (env :: outer) e oe.cls a0 L ((h₁.push { cls := .type "traceback", dict := none, data := .fields ([head, .ref L, .none, rawInt L, .none] ++ (if pl.isEmpty then List.replicate 6 Value.none else pl)).toArray }).update e (Obj.mapFields (·.setIfInBounds 1 (Value.ref h₁.objs.size)))) ∧
    h.UpToSlots ((h₁.push { cls := .type "traceback", dict := none, data := .fields ([head, .ref L, .none, rawInt L, .none] ++ (if pl.isEmpty then List.replicate 6 Value.none else pl)).toArray }).update e (Obj.mapFields (·.setIfInBounds 1 (Value.ref h₁.objs.size)))) := by
  have stay : ∀ b o, b ≠ e → h₁.get? b = some o → ((h₁.push { cls := .type "traceback", dict := none, data := .fields ([head, .ref L, .none, rawInt L, .none] ++ (if pl.isEmpty then List.replicate 6 Value.none else pl)).toArray }).update e (Obj.mapFields (·.setIfInBounds 1 (Value.ref h₁.objs.size)))).get? b = some o :=
    fun b o hb ho => (Heap.get?_update_other _ _ (Ne.symm hb)).trans (Heap.get?_push_of_some _ ho)
  have kb₁ : base.StaysIn h₁ := fun b o hb => (hs₁.2.1 b fun hm => by rw [(hl.mem hm).1] at hb; cases hb).trans (hkb b o hb)
  have nofields : ∀ b o, h.get? b = some o → (∀ vs, o.data ≠ .fields vs) → b ≠ e := fun b o hb hn q => by
    subst q
    cases he.symm.trans hb
    exact hn vs hd
  have hTe : h₁.objs.size ≠ e := Nat.ne_of_gt (Heap.lt_size e₁)
  have e₂ := Heap.get?_push_of_some { cls := .type "traceback", dict := none, data := .fields ([head, .ref L, .none, rawInt L, .none] ++ (if pl.isEmpty then List.replicate 6 Value.none else pl)).toArray } e₁
  refine ⟨⟨fun b o hb => stay b o (fun q => by rw [q, hen] at hb; cases hb) (kb₁ b o hb), hen, hl.of_keeps fun b o hb hn => ?_, ?_⟩, fun b o hb hn => ?_⟩
  · obtain ⟨sl, hsl⟩ := hs₁.2.2 b o hb
    exact ⟨_, stay b _ (nofields b o hb hn) hsl, rfl⟩
  · refine ⟨_, _, h₁.objs.size, _, _, Heap.get?_update_self _ e₂ (Obj.isFreed_of_fields (Obj.data_mapFields hd _)), ⟨Obj.cls_mapFields _ _, by rw [Array.getElem?_setIfInBounds_ne (by decide)]; exact h0⟩, Obj.data_mapFields hd _, by simp [hsz], kb₁.fresh, hTe,
      (Heap.get?_update_other _ _ (Ne.symm hTe)).trans (Heap.get?_push_size h₁ rfl), rfl, ?_⟩
    rcases hpl with rfl | ⟨_, _, _, _, _, _, _, rfl⟩ <;> simp
  · obtain ⟨sl, hsl⟩ := hs₁.2.2 b o hb
    exact ⟨sl, stay b _ (nofields b o hb hn) hsl⟩
theorem ctx_note1 {oe : Obj} {vs : Array Value} (hfr : A.frames = some (env :: outer)) (hl : s.heap.FunFrames base (env :: outer)) (hf : env.frame = some L)
    (he : s.heap.get? e = some oe) (hkb : base.StaysIn s.heap) (hen : base.get? e = none) (hd : oe.data = .fields vs) (h1 : vs[1]? = some .none) (h0 : vs[0]? = some a0) (h2 : vs[2]? = some .none)
    (h : ∀ h', Heap.HeldW base (env :: outer) e oe.cls a0 L h' → s.heap.UpToSlots h' → CtxNone e h' → Q () { s with heap := h' }) : wpAny M A (noteFrame (.ref e) env) Q E s := by
  have hsz : 1 < vs.size := (Array.getElem?_eq_some_iff.mp h1).1
  unfold noteFrame
  simp only [hf]
  refine wpAny_bind (wpAny_field he hd h1 ?_)
  rw [if_neg (by decide)]
  refine ctx_entry hfr hl hf he hd hsz h2 fun h₁ pl hpl hs₁ e₁ hc => ?_
  obtain ⟨k1, k2⟩ := ctx_noted (L := L) (head := .none) hl he hkb hen hd hsz h0 hpl hs₁ e₁
  exact h _ k1 k2 hc
theorem ctx_note2 (hfr : A.frames = some (env :: outer)) (hf : env.frame = some L) (hfl : Heap.FlyingW base (env :: outer) e cls a0 s.heap) (hc : CtxNone e s.heap)
    (h : ∀ h', Heap.HeldW base (env :: outer) e cls a0 L h' → s.heap.UpToSlots h' → CtxNone e h' → Q () { s with heap := h' }) : wpAny M A (noteFrame (.ref e) env) Q E s := by
  obtain ⟨hkb, hen, hl, oe, vs, T, oT, ts, he, ⟨rfl, h0⟩, hd, h1, hnT, hTe, hT, hdT, h3⟩ := hfl
  obtain ⟨oe', vs', he', hd', h2⟩ := hc
  cases he.symm.trans he'
  cases hd.symm.trans hd'
  have nT : ∀ b o, s.heap.get? b = some o → (∀ vs, o.data ≠ .fields vs) → b ≠ T := fun b o hb hn q => by
    subst q
    cases hT.symm.trans hb
    exact hn ts hdT
  have oth : ∀ b, b ≠ T → (s.heap.update T (Obj.mapFields (·.setIfInBounds 3 Value.none))).get? b = s.heap.get? b := fun b hb => Heap.get?_update_other _ _ (Ne.symm hb)
  have hl' : (s.heap.update T (Obj.mapFields (·.setIfInBounds 3 Value.none))).FunFrames base (env :: outer) := hl.of_keeps fun b o hb hn => ⟨o, (oth b (nT b o hb hn)).trans hb, rfl⟩
  have hkb' : base.StaysIn (s.heap.update T (Obj.mapFields (·.setIfInBounds 3 Value.none))) := fun b o hb => (oth b fun q => by rw [q, hnT] at hb; cases hb).trans (hkb b o hb)
  have he2 := (oth e (Ne.symm hTe)).trans he
  have hsz : 1 < vs.size := (Array.getElem?_eq_some_iff.mp h1).1
  unfold noteFrame
  simp only [hf]
  refine wpAny_bind (wpAny_field he hd h1 ?_)
  rw [if_pos (show (Value.ref T != Value.none) = true from by simp)]
  refine wpAny_bind (wpAny_field hT hdT h3 ?_)
  rw [if_neg (show ¬ ((Value.none == rawInt L) = true) from by simp [rawInt])]
  refine wpAny_bind (wpAny_setField hT hdT (Array.getElem?_eq_some_iff.mp h3).1 ?_)
  refine ctx_entry (s := { s with heap := _ }) hfr hl' hf he2 hd hsz h2 fun h₁ pl hpl hs₁ e₁ hc => ?_
  obtain ⟨k1, k2⟩ := ctx_noted (L := L) (head := .ref T) hl' he2 hkb' hen hd hsz h0 hpl hs₁ e₁
  exact h _ k1 (fun b o hb hn => k2 b o ((oth b (nT b o hb hn)).trans hb) hn) hc
theorem ctx_set3 {l : List Env} {fl : Value} (hkb : base.StaysIn s.heap) (hen : base.get? e = none) (hl : s.heap.FunFrames base l) (ht : s.heap.TracedAtW base e cls a0 fl) (hc : CtxNone e s.heap)
    (h : ∀ h', Heap.FlyingW base l e cls a0 h' → s.heap.UpToSlots h' → CtxNone e h' → Q () { s with heap := h' }) : wpAny M A (setFlight (.ref e) none) Q E s := by
  obtain ⟨oe, vs, T, oT, ts, he, hcl, hd, h1, hnT, hTe, hT, hdT, h3⟩ := ht
  have hsz3 : 3 < ts.size := (Array.getElem?_eq_some_iff.mp h3).1
  have nT : ∀ b o, s.heap.get? b = some o → (∀ vs, o.data ≠ .fields vs) → b ≠ T := fun b o hb hn q => by
    subst q
    cases hT.symm.trans hb
    exact hn ts hdT
  have oth : ∀ b, b ≠ T → (s.heap.update T (Obj.mapFields (·.setIfInBounds 3 ((none : Option Addr).elim Value.none fun f => rawInt f)))).get? b = s.heap.get? b := fun b hb => Heap.get?_update_other _ _ (Ne.symm hb)
  unfold setFlight
  refine wpAny_bind (wpAny_field he hd h1 ?_)
  rw [if_pos (show (Value.ref T != Value.none) = true from by simp)]
  refine wpAny_setField hT hdT hsz3 (h _ ⟨fun b o hb => (oth b fun q => by rw [q, hnT] at hb; cases hb).trans (hkb b o hb), hen, hl.of_keeps fun b o hb hn => ⟨o, (oth b (nT b o hb hn)).trans hb, rfl⟩,
    oe, vs, T, _, _, (oth e (Ne.symm hTe)).trans he, hcl, hd, h1, hnT, hTe, Heap.get?_update_self _ hT (Obj.isFreed_of_fields (Obj.data_mapFields hdT _)), Obj.data_mapFields hdT _, by simp [hsz3]⟩
    (fun b o hb hn => ⟨o.slots, (oth b (nT b o hb hn)).trans hb⟩) (ctx_other hTe hc))
end
section
variable {M : Model} {A : Around} {E : Value → Shared → Prop} {s' : Shared} {base g h : Heap} {outer : List Env} {L a e t : Addr} {m : Str → Option Value} {name : Str} {scope : Scope} {cd : Value} {Q : Unit → Shared → Prop}
/-- a frame is left by an exception that was raised in it: what the library tells, and that it has no context if it had none -/
theorem leave_raiseC {cls : Value} {vs : List Value} {oe : Obj} {ws : Array Value} (K : Below A base outer g) (F : Fr g L h m) (kp : ∀ b o, h.get? b = some o → s'.heap.get? b = some o) (hen : h.get? e = none) (he : s'.heap.get? e = some oe) (hcl : oe.cls = cls)
    (hd : oe.data = .fields ws) (h0 : ws[0]? = some (.ref t)) (h1 : ws[1]? = some .none) (ht0 : h.get? t = none) (ht : s'.heap.TupAt t vs)
    (hQ : ∀ h', RaisedS base g outer e cls t vs [] h' → g.UpToSlots h' → (ws[2]? = some .none → CtxNone e h') → Q () { s' with heap := h' }) (hk : scope.kind = .function := by rfl) :
    wpAny M (A.deeper (envOf name scope L a cd)) (leaving (envOf name scope L a cd) (.ref e)) Q E s' := by
  have K' := K.push (name := name) (a := a) (cd := cd) F hk
  have inl : ∀ env ∈ (envOf name scope L a cd :: outer), ∀ b, env.frame = some b → b ∈ (envOf name scope L a cd :: outer).filterMap (·.frame) := fun env he b hb => List.mem_filterMap.mpr ⟨env, he, hb⟩
  have sb : base.StaysIn (hideAll h ((envOf name scope L a cd :: outer).filterMap (·.frame))) := fun b o q => hideAll_get _ (K'.stays b o q) fun hm => by
    rw [(K'.frames.mem hm).1] at q; cases q
  have sg : ∀ b o, g.get? b = some o → b ∉ outer.filterMap (·.frame) → (hideAll h ((envOf name scope L a cd :: outer).filterMap (·.frame))).get? b = some o := fun b o q nm => hideAll_get _ (F.keep b o q) fun hm => by
    rcases kts_mem hm with z | z
    · rw [z, kts_self F] at q; cases q
    · exact nm z
  have hid0 : ∀ {b : Addr}, h.get? b = none → (hideAll h ((envOf name scope L a cd :: outer).filterMap (·.frame))).get? b = none := fun {b} hb => by
    cases q : (hideAll h ((envOf name scope L a cd :: outer).filterMap (·.frame))).get? b with
    | none => rfl
    | some o => have := of_hideAll _ q; rw [hb] at this; cases this
  have fr := (funFrames_hide K'.frames inl).of_keeps (h' := s'.heap) fun b o hb _ => ⟨o, kp b o hb, rfl⟩
  have stay : (hideAll h ((envOf name scope L a cd :: outer).filterMap (·.frame))).StaysIn s'.heap := fun b o q => kp b o (of_hideAll _ q)
  have up : g.UpToSlots s'.heap := (Heap.UpToSlots.of_keeps F.keep).trans (Heap.UpToSlots.of_keeps kp)
  have fin : ∀ h', Heap.FlyingW (hideAll h ((envOf name scope L a cd :: outer).filterMap (·.frame))) outer e cls (.ref t) h' → s'.heap.UpToSlots h' → RaisedS base g outer e cls t vs [] h' := fun h' x u =>
    ⟨⟨_, sb, sg, (fun _ h => nomatch h), x, hid0 ht0⟩, ht.of_slots u⟩
  subst hcl
  by_cases h2 : ws[2]? = some .none
  · unfold leaving
    refine wpAny_bind (ctx_note1 K'.stack fr rfl he stay (hid0 hen) hd h1 h0 h2 fun h₁ x u c => ?_)
    obtain ⟨x1, x2, x3, x4⟩ := x
    refine ctx_set3 (s := { s' with heap := h₁ }) x1 x2 x3 x4 c fun h₂ y u₂ c₂ => ?_
    obtain ⟨y1, y2, ⟨_, _, y3⟩, y4⟩ := y
    exact hQ h₂ (fin h₂ ⟨y1, y2, y3, y4⟩ (u.trans u₂)) (up.trans (u.trans u₂)) fun _ => c₂
  · refine wpAny_leaving_firstW K'.stack fr rfl he stay (hid0 hen) hd h1 h0 fun h₁ x => ?_
    obtain ⟨x1, ⟨_, _, x3⟩, x4, x5⟩ := x
    exact hQ h₁ (fin h₁ ⟨x1, hid0 hen, x3, x4⟩ x5) (up.trans x5) fun h => absurd h h2
end

-- part pexh
/-! a raise within a handler: the exception held has no context -/
section
variable {prog : Program} {w : World} {A : Around} {E : Value → Shared → Prop} {s : Shared} {env : Env}
theorem entry_unchain : entryFor table "proto.unchain" = some Builtin.«proto.unchain» := entryFor_of_tree (by kernel_rfl)
theorem unchain_none {e x : Addr} {Q : Value → Shared → Prop} (hc : CtxNone x s.heap) (hq : Q .none s) : wpAny (model prog w) A (runValue (.builtin "proto.unchain" ⟨[.ref e, .ref x, .ref x, .bool false], []⟩)) Q E s := by
  obtain ⟨oe, vs, he, hd, h2⟩ := hc
  refine wpAny_runValue (codeAny_builtin entry_unchain ?_)
  unfold Builtin.«proto.unchain»
  dsimp only
  refine wpAny_bind (wpAny_field he hd h2 ?_)
  rw [if_pos (by decide)]
  exact wpAny_pure hq
theorem raiseNew_held {α : Type} {e x : Addr} {oe : Obj} {ws : Array Value} {Q : α → Shared → Prop} (hh : A.handled = some (.ref x)) (hx : CtxNone x s.heap) (hne : e ≠ x) (he : s.heap.get? e = some oe) (hd : oe.data = .fields ws) (hsz : 2 < ws.size)
    (h : E (.ref e) { s with heap := s.heap.update e (Obj.mapFields (·.setIfInBounds 2 (.ref x))) }) : wpAny (model prog w) A (raiseNew (.ref e) : Sem α) Q E s := by
  unfold raiseNew
  refine wpAny_bind (wpAny_handled ?_)
  rw [hh]
  dsimp only
  rw [if_pos (show (Value.ref x != Value.ref e) = true from by simp [Ne.symm hne])]
  refine wpAny_bind (wpAny_holding (unchain_none hx ?_))
  refine wpAny_bind ?_
  show wpAny _ _ (setField (.ref e) 2 (.ref x)) _ _ _
  exact wpAny_setField he hd hsz (wpAny_throw h)
end
section
variable {prog : Program} {w : World} {A : Around} {E : Value → Shared → Prop} {s : Shared} {env : Env}
variable {nm q : Str} {C N : Addr} {bs bm : List Value} {hdct : Bool} {sn : List Str} {sub : List Value} {ab : Bool} {col : Option Bool} {dd : Option Addr} {k0 k1 k2 k3 k5 : Option Value} {newId : String}
theorem raiseStmt_held {x : Sem Value} {y : Addr} {Q : Flow → Shared → Prop} (hbase : bm.contains (.type "BaseException") = true) (hh : A.handled = some (.ref y))
    (h : wpAny (model prog w) A x (fun v s₁ => ∃ e t, v = .ref e ∧ e ≠ y ∧ CtxNone y s₁.heap ∧ s₁.heap.get? C = some (excClassObj nm q C N bs bm hdct sn sub ab col dd k0 k1 k2 k3 k5 newId) ∧
      s₁.heap.get? e = some { cls := .ref C, data := .fields #[.ref t, .none, .none, .none, .bool false, .none] } ∧ E (.ref e) { s₁ with heap := s₁.heap.update e (Obj.mapFields (·.setIfInBounds 2 (.ref y))) }) E s) :
    wpAny (model prog w) A (raiseStmt env (some x) none) Q E s := by
  have hcB : (Value.ref C :: bm).contains (.type "BaseException") = true := by rw [List.contains_cons, hbase, Bool.or_true]
  unfold raiseStmt
  refine wpAny_bind (wpAny_mono h (fun v s₁ h₁ => ?_) fun _ _ x => x)
  obtain ⟨e, t, rfl, hne, hy, hC, he, hE⟩ := h₁
  obtain ⟨hp, g, d, tk, os⟩ := s₁
  repeat (first | with_reducible refine wpAny_loadPart_at he ?_ | with_reducible refine wpAny_loadPart_at hC ?_ | (with_reducible refine wpAny_isSubtype_exc hC ?_; rw [hcB]) | wp_step)
  exact raiseNew_held hh hy hne he rfl (by simp) hE
end
/-- an exception that was raised while y was held -/
structure MadeH (h h' : Heap) (e y : Addr) (cls : Value) (args : List Value) : Prop where
  keeps : ∀ b o, h.get? b = some o → h'.get? b = some o
  new : h.get? e = none
  there : ∃ t oe ws, h'.get? e = some oe ∧ oe.cls = cls ∧ oe.data = .fields ws ∧ ws[0]? = some (.ref t) ∧ ws[1]? = some .none ∧ h.get? t = none ∧ h'.TupAt t args
theorem madeH_of {h h' : Heap} {e y : Addr} {cls : Value} {args : List Value} (hm : Heap.MadeExcOf h h' e cls args) : MadeH h (h'.update e (Obj.mapFields (·.setIfInBounds 2 (.ref y)))) e y cls args := by
  obtain ⟨k, n, t, he, htn, ht⟩ := hm
  have hte : t ≠ e := fun q => by
    subst q
    rw [he] at ht
    have := congrArg (fun o => o.map (·.data)) ht
    simp at this
  refine ⟨fun b o hb => (Heap.get?_update_other _ _ (fun q => by subst q; rw [n] at hb; cases hb)).trans (k b o hb), n, t, _, _, Heap.get?_update_self _ he (Obj.isFreed_of_fields (Obj.data_mapFields rfl _)), Obj.cls_mapFields _ _, Obj.data_mapFields rfl _, by simp, by simp, htn,
    _, _, (Heap.get?_update_other _ _ (Ne.symm hte)).trans ht, rfl, rfl⟩
section
variable {prog : Program} {w : World} {A : Around} {E : Value → Shared → Prop} {s : Shared} {name : Str} {scope : Scope} {L a : Addr} {cd : Value} {h₀ : Heap} {m mg : Str → Option Value}
  {x : Str} {C y : Addr} {B newId initId : String} {bm : List Value} {np cpos pos : Pos} {Q : Flow → Shared → Prop}
theorem Raise_ownH {e₀ : Expr} {rest : List Expr} (F : Fr h₀ L s.heap m) (hg : h₀.Ns mainGlobals mg) (O : OwnCls x C bm newId mg h₀) (FB : ExcBaseFacts B newId initId bm) (hh : A.handled = some (.ref y))
    (h : wpAny (model prog w) A (spliced (backTo cpos (starEach (e₀ :: rest) (envOf name scope L a cd)))) (fun vs s₂ => vs.length ≤ sizeLine ∧ (∀ b o, h₀.get? b = some o → s₂.heap.get? b = some o) ∧ CtxNone y s₂.heap ∧
      ∀ h' e, MadeH s₂.heap h' e y (.ref C) vs → E (.ref e) { s₂ with heap := h' }) E s)
    (he : starEach (e₀ :: rest) (envOf name scope L a cd) = (false, eval e₀ (envOf name scope L a cd)) :: starEach rest (envOf name scope L a cd) := by rfl)
    (hplain : (backTo cpos (starEach rest (envOf name scope L a cd))).any (·.1) = false := by rfl)
    (hk : scope.kind = .function := by rfl) (hx : (envOf name scope L a cd).kindOf x = some .globalImplicit := by rfl) (hd : (x == ("__debug__" : Str)) = false := by decide) :
    wpAny (model prog w) A (exec (.Raise (some (.Call (.Name x np) (e₀ :: rest) [] cpos)) none pos) (envOf name scope L a cd)) Q E s := by
  obtain ⟨tl, N, nm, q, bs, hdct, sn, sub, ab, col, dd, k0, k1, k2, k3, k5, mN, hC, hN, hni, T⟩ := O.obj
  have plain : (backTo cpos (starEach (e₀ :: rest) (envOf name scope L a cd))).any (·.1) = false := by
    rw [he]; show (false || (backTo cpos (starEach rest (envOf name scope L a cd))).any (·.1)) = false; rw [hplain]; rfl
  have key : wpAny (model prog w) A (eval (.Call (.Name x np) (e₀ :: rest) [] cpos) (envOf name scope L a cd)) (fun v s₁ => ∃ e t, v = .ref e ∧ e ≠ y ∧ CtxNone y s₁.heap ∧
      s₁.heap.get? C = some (excClassObj nm q C N bs tl hdct sn sub ab col dd k0 k1 k2 k3 k5 newId) ∧
      s₁.heap.get? e = some { cls := .ref C, data := .fields #[.ref t, .none, .none, .none, .bool false, .none] } ∧ E (.ref e) { s₁ with heap := s₁.heap.update e (Obj.mapFields (·.setIfInBounds 2 (.ref y))) }) E s := by
    refine wpAny_Call_ofName (wpAny_mono (ld_own F hg O ⟨rfl, rfl⟩ hk hx hd : wpAny _ _ _ (fun v s₁ => v = .ref C ∧ s₁ = s) _ _) (fun f s₁ h₁ => ?_) fun _ _ z => z)
    obtain ⟨rfl, rfl⟩ := h₁
    unfold callWith
    rw [he] at h ⊢
    refine wpAny_bind (wpAny_holding (wpAny_mono (Calls.evalArgs_plain (wpAny_mono h (fun vs s₂ h₂ => ⟨rfl, h₂⟩) fun _ _ z => z) : wpAny _ _ _ (fun aa s₂ => aa.kw = [] ∧ aa.pos.length ≤ sizeLine ∧ (∀ b o, h₀.get? b = some o → s₂.heap.get? b = some o) ∧ CtxNone y s₂.heap ∧ ∀ h' e, MadeH s₂.heap h' e y (.ref C) aa.pos → E (.ref e) { s₂ with heap := h' }) _ _) (fun aa s₂ h₂ => wpAny_bind (wpAny_standAt ?_)) fun _ _ z => z))
    obtain ⟨apos, akw⟩ := aa
    obtain ⟨hkw, hlen, kp, hcy, hE⟩ := h₂
    obtain rfl : akw = [] := hkw
    obtain ⟨hp, gg, dd', tk, os⟩ := s₂
    rw [he] at plain
    rw [plain]
    have hC₂ := kp _ _ hC
    refine wpAny_bind (wpAny_keeperOf_exc hC₂ ?_)
    refine wpAny_bind (wpAny_call_exc_subT (hrest := hlen) FB (T.keeps kp) hC₂ (hN.keeps kp) hni fun h' e hm => wpAny_bind (wpAny_holding (wpAny_point (wpAny_pure ?_))))
    obtain ⟨t, ht, _, _⟩ := hm.there
    refine ⟨e, t, rfl, fun q => ?_, ctx_keeps hm.keeps hcy, hm.keeps _ _ hC₂, ht, hE _ e (madeH_of hm)⟩
    subst q
    obtain ⟨_, _, hy, _⟩ := hcy
    rw [hm.new] at hy; cases hy
  rw [arm_exec_Raise]
  refine wpAny_bind (wpAny_standAt (raiseStmt_held (T.hasType FB.hasBase) hh (wpAny_bind (wpAny_mono key (fun v s₃ h₃ => wpAny_bind (wpAny_standAt (wpAny_pure h₃))) fun _ _ z => z))))
end

-- part phx
/-! contracts at any held exception, and with any ending by a raise -/
noncomputable abbrev mAH (hv : Option Value) (dp un : Nat) (gd : Option (List Code)) (fr : List Env) : Around := { handled := hv, depth := dp, frames := some fr, guards := gd, units := un }
noncomputable abbrev ErrR := Heap → List Env → Heap → Shared → Value → Shared → Prop
noncomputable def CtrG (hv : Option Value) (prog : Program) (w : World) (K : Frag) (p : Program) (loose : List Str) (mean : ExcName → Option Value) (mg mb : Str → Option Value)
    (d u : Nat) (f : Addr) (args : List Value) (own : List (Addr × Obj)) (post : Value → List (Addr × Obj) → Prop) (ER : ErrR) : Prop :=
  ∀ (dp un : Nat) (gd : Option (List Code)) (fr : List Env) (base : Heap) (s : Shared) (R : Result → Shared → Prop),
    Below (mAH hv dp un gd fr) base fr (hid s.heap own) → K.In (hid s.heap own) → Top p loose mean mg mb (hid s.heap own) → KtsDicts (fsOf fr) (hid s.heap own) → dp + d < recursionLimit → un + u < cLine →
    (∀ q ∈ own, s.heap.get? q.1 = some q.2) →
    (∀ v s' own', Ret s own s' own' → post v own' → R (.ok (.ret v)) s') →
    (∀ v s', ER base fr (hid s.heap own) s v s' → R (.error v) s') →
    codeAny (model prog w) (mAH hv dp un gd fr) (.call (.ref f) ⟨args, []⟩) R s
/-- a raise whose exception has no context -/
noncomputable def FlewC (cls : Value) (vs : List Value) : ErrR := fun base fr g s v s' =>
  s' = { s with heap := s'.heap, toks := s'.toks } ∧ g.UpToSlots s'.heap ∧ ∃ e t, v = .ref e ∧ RaisedS base g fr e cls t vs [] s'.heap ∧ CtxNone e s'.heap
section
variable {hv : Option Value} {prog : Program} {w : World} {K : Frag} {p : Program} {loose : List Str} {mean : ExcName → Option Value} {mg mb : Str → Option Value} {d u : Nat} {f : Addr} {args : List Value} {own : List (Addr × Obj)}
  {post : Value → List (Addr × Obj) → Prop} {ER : ErrR}
theorem ctrG_enter {name qual : Str} {params : Arguments} {body : List Stmt} {scope : Scope} {dV kV doc pm cdv ct oc : Value} {an od : Option Addr} {osl : Array (Option Value)} {binds : List (Str × Value)}
    (ho : K.lookup f = some ⟨oc, od, .func (fnOf name qual params body scope dV kV doc pm an cdv ct), osl⟩) (hcd : codeIn K cdv qual = true)
    (hbind : ∀ s, BindsTo s (fnOf name qual params body scope dV kV doc pm an cdv ct) ⟨args, []⟩ binds) (hloc : ∀ y ∈ binds, scope.names.lookup y.1 = some .local)
    (h : ∀ (dp un : Nat) (gd : Option (List Code)) (fr : List Env) (base g : Heap) (L : Addr) (h₁ : Heap) (s : Shared), dp + d < recursionLimit → un + u < cLine →
      g = hid s.heap own → Below (mAH hv dp un gd fr) base fr g → Fr g L h₁ (fun y => binds.reverse.lookup y) → News g L h₁ own → K.In g → Top p loose mean mg mb g → (∀ q ∈ own, q.1 < L) → KtsDicts (fsOf fr) g →
      wpAny (model prog w) ((mAH hv dp un gd fr).deeper (envOf qual scope L f cdv)) (execs body (envOf qual scope L f cdv))
        (fun fl s' => Lv s g post (match fl with | .ret v => v | _ => .none) s')
        (fun e s' => wpAny (model prog w) ((mAH hv dp un gd fr).deeper (envOf qual scope L f cdv)) (leaving (envOf qual scope L f cdv) e) (fun _ s'' => ER base fr g s e s'') (fun e' s'' => ER base fr g s e' s'') s')
        { s with heap := h₁, toks := s.toks + binds.length })
    (hco : scope.isCoroutine = false) (hgen : scope.isGenerator = false) (hk : scope.kind = .function)
    (hcell : ∀ x ∈ scope.names, x.2 ≠ .cell) (hroom : 0 < d := by decide) : CtrG hv prog w K p loose mean mg mb d u f args own post ER := by
  intro dp un gd fr base s R BG X T DG hd hu hown hret herr
  have hX : K.In s.heap := fun a o e => of_hideAll _ (X a o e)
  have hl : s.heap.NoLimit := T.nolimit.keeps fun b o e => of_hideAll _ e
  refine codeAny_call_def (fd := fnOf name qual params body scope dV kV doc pm an cdv ct) (body := body) (binds := binds) (Nat.lt_of_le_of_lt (Nat.le_add_right dp d) hd) (hX _ _ ho) rfl hl (codeRec_of hX hcd) rfl (hbind s) hcell hloc (fun h₁ hns hk₁ => ?_) hco hgen hk
  refine wpAny_mono (h dp un gd fr base _ s.heap.objs.size h₁ s hd hu rfl BG ⟨hns, fun b o e => hk₁ b o (of_hideAll _ e), Nat.le_of_eq (hideAll_size _ _)⟩
    (fun q hq => ⟨hk₁ _ _ (hown q hq), Nat.ne_of_lt (Heap.lt_size (hown q hq)), hideAll_none _ (List.mem_map_of_mem hq)⟩) X T (fun q hq => Heap.lt_size (hown q hq)) DG) (fun fl s' hl => ?_) fun e s' y => ?_
  · obtain ⟨own', hr, hp⟩ := hl.ret
    exact hret _ _ _ hr hp
  · exact wpAny_mono y (fun _ s'' hl => herr _ _ hl) fun e' s'' hl => herr _ _ hl
theorem ctrG_useE (C : CtrG hv prog w K p loose mean mg mb d u f args own post ER) {A₀ : Around} {base h₀ : Heap} {outer : List Env} {env : Env} {L : Addr} {m : Str → Option Value} {s : Shared} {rest : List (Addr × Obj)} {dp un : Nat} {gd : Option (List Code)}
    {Q E : Value → Shared → Prop}
    (B : Below A₀ base outer h₀) (F : Fr h₀ L s.heap m) (X : K.In h₀) (T : Top p loose mean mg mb h₀) (D : KtsDicts (fsOf outer) h₀) (N : News h₀ L s.heap (own ++ rest)) (hf : env.frame = some L) (hke : env.scope.kind = .function)
    (hd : dp + d < recursionLimit) (hu : un + u < cLine) (hap : ∀ q ∈ rest, q.1 ∉ own.map (·.1))
    (h : ∀ v own' h' tk', post v own' → Fr h₀ L h' m → News h₀ L h' (own' ++ rest) → (∀ a ∈ own', a.1 ∈ own.map (·.1) ∨ ∀ q ∈ rest, a.1 ≠ q.1) → Q v { s with heap := h', toks := tk' })
    (he : ∀ v h' tk', Fr h₀ L (hid s.heap own) m → ER base (env :: outer) (hid s.heap own) s v { s with heap := h', toks := tk' } → E v { s with heap := h', toks := tk' })
    (hs : ∀ v s', ER base (env :: outer) (hid s.heap own) s v s' → s' = { s with heap := s'.heap, toks := s'.toks }) :
    wpAny (model prog w) (mAH hv dp un gd (env :: outer)) (call (.ref f) args) Q E s := by
  have No : News h₀ L s.heap own := fun q hq => N q (List.mem_append_left _ hq)
  obtain ⟨FG, BG, st, _⟩ := groundX (A := mAH hv dp un gd (env :: outer)) (R := fun _ _ => True) B F No rfl hf hke
  refine wpAny_call (C dp un gd (env :: outer) base s _ BG (X.keeps st) (T.keeps st) (dicts_push F No D hf st) hd hu (fun q hq => (No q hq).1) ?_ ?_)
  · intro v s' own' r hp
    obtain ⟨F', N', hn⟩ := ret_back F N hap r
    have e := r.same
    have := h v own' s'.heap s'.toks hp F' N' hn
    rw [← e] at this; exact this
  · intro v s' r
    have e' := hs v s' r
    have := he v s'.heap s'.toks FG (by rw [← e']; exact r)
    rw [← e'] at this; exact this
end
/-- contracts of the defs that catch, at any held exception -/
noncomputable def CtrTG (hv : Option Value) (prog : Program) (w : World) (K : Frag) (p : Program) (loose : List Str) (mean : ExcName → Option Value) (mg mb : Str → Option Value)
    (d u : Nat) (f : Addr) (args : List Value) (own : List (Addr × Obj)) (post : Value → List (Addr × Obj) → Prop) : Prop :=
  ∀ (dp un : Nat) (gd : Option (List Code)) (fr : List Env) (base : Heap) (s : Shared) (R : Result → Shared → Prop),
    Below (mAH hv dp un gd fr) base fr (hid s.heap own) → K.In base → Top p loose mean mg mb base → KtsDicts (fsOf fr) (hid s.heap own) → dp + d < recursionLimit → un + u < cLine →
    (∀ q ∈ own, s.heap.get? q.1 = some q.2) →
    (∀ v s' own', RetT (fsOf fr) s own s' own' → post v own' → R (.ok (.ret v)) s') →
    codeAny (model prog w) (mAH hv dp un gd fr) (.call (.ref f) ⟨args, []⟩) R s
section
variable {hv : Option Value} {prog : Program} {w : World} {K : Frag} {p : Program} {loose : List Str} {mean : ExcName → Option Value} {mg mb : Str → Option Value} {d u : Nat} {f : Addr} {args : List Value} {own : List (Addr × Obj)}
  {post : Value → List (Addr × Obj) → Prop}
theorem ctrTG_enter {name qual : Str} {params : Arguments} {body : List Stmt} {scope : Scope} {dV kV doc pm cdv ct oc : Value} {an od : Option Addr} {osl : Array (Option Value)} {binds : List (Str × Value)}
    (ho : K.lookup f = some ⟨oc, od, .func (fnOf name qual params body scope dV kV doc pm an cdv ct), osl⟩) (hcd : codeIn K cdv qual = true)
    (hbind : ∀ s, BindsTo s (fnOf name qual params body scope dV kV doc pm an cdv ct) ⟨args, []⟩ binds) (hloc : ∀ y ∈ binds, scope.names.lookup y.1 = some .local)
    (h : ∀ (dp un : Nat) (gd : Option (List Code)) (fr : List Env) (base g : Heap) (L : Addr) (h₁ : Heap) (s : Shared), dp + d < recursionLimit → un + u < cLine →
      g = hid s.heap own → Below (mAH hv dp un gd fr) base fr g → Fr g L h₁ (fun y => binds.reverse.lookup y) → News g L h₁ own → K.In base → Top p loose mean mg mb base → K.In g → Top p loose mean mg mb g → (∀ q ∈ own, q.1 < L) → KtsDicts (fsOf fr) g →
      wpAny (model prog w) ((mAH hv dp un gd fr).deeper (envOf qual scope L f cdv)) (execs body (envOf qual scope L f cdv))
        (fun fl s' => LvT s (fsOf fr) g post (match fl with | .ret v => v | _ => .none) s') noE
        { s with heap := h₁, toks := s.toks + binds.length })
    (hco : scope.isCoroutine = false) (hgen : scope.isGenerator = false) (hk : scope.kind = .function)
    (hcell : ∀ x ∈ scope.names, x.2 ≠ .cell) (hroom : 0 < d := by decide) : CtrTG hv prog w K p loose mean mg mb d u f args own post := by
  intro dp un gd fr base s R BG XB TB DG hd hu hown hret
  have XG : K.In (hid s.heap own) := XB.keeps BG.stays
  have TG : Top p loose mean mg mb (hid s.heap own) := TB.keeps BG.stays
  have hX : K.In s.heap := fun a o e => of_hideAll _ (XG a o e)
  have hl : s.heap.NoLimit := TG.nolimit.keeps fun b o e => of_hideAll _ e
  refine codeAny_call_def (fd := fnOf name qual params body scope dV kV doc pm an cdv ct) (body := body) (binds := binds) (Nat.lt_of_le_of_lt (Nat.le_add_right dp d) hd) (hX _ _ ho) rfl hl (codeRec_of hX hcd) rfl (hbind s) hcell hloc (fun h₁ hns hk₁ => ?_) hco hgen hk
  refine wpAny_mono (h dp un gd fr base _ s.heap.objs.size h₁ s hd hu rfl BG ⟨hns, fun b o e => hk₁ b o (of_hideAll _ e), Nat.le_of_eq (hideAll_size _ _)⟩
    (fun q hq => ⟨hk₁ _ _ (hown q hq), Nat.ne_of_lt (Heap.lt_size (hown q hq)), hideAll_none _ (List.mem_map_of_mem hq)⟩) XB TB XG TG (fun q hq => Heap.lt_size (hown q hq)) DG) (fun fl s' hl => ?_) fun e s' y => y.elim
  obtain ⟨own', hr, hp⟩ := hl.ret
  exact hret _ _ _ hr hp
theorem ctrTG_use (C : CtrTG hv prog w K p loose mean mg mb d u f args own post) {A₀ : Around} {base h₀ : Heap} {outer : List Env} {env : Env} {L : Addr} {m : Str → Option Value} {s : Shared} {rest : List (Addr × Obj)} {dp un : Nat} {gd : Option (List Code)}
    {Q E : Value → Shared → Prop}
    (B : Below A₀ base outer h₀) (F : Fr h₀ L s.heap m) (XB : K.In base) (TB : Top p loose mean mg mb base) (D : KtsDicts (fsOf outer) h₀) (N : News h₀ L s.heap (own ++ rest)) (hf : env.frame = some L) (hke : env.scope.kind = .function)
    (hd : dp + d < recursionLimit) (hu : un + u < cLine) (hap : ∀ q ∈ rest, q.1 ∉ own.map (·.1))
    (h : ∀ v own' h' tk' h₀', post v own' → KtsTurn (fsOf outer) h₀ h₀' → Fr h₀' L h' m → News h₀' L h' (own' ++ rest) → (∀ a ∈ own', a.1 ∈ own.map (·.1) ∨ ∀ q ∈ rest, a.1 ≠ q.1) → Q v { s with heap := h', toks := tk' }) :
    wpAny (model prog w) (mAH hv dp un gd (env :: outer)) (call (.ref f) args) Q E s := by
  have No : News h₀ L s.heap own := fun q hq => N q (List.mem_append_left _ hq)
  obtain ⟨FG, BG, st, _⟩ := groundX (A := mAH hv dp un gd (env :: outer)) (R := fun _ _ => True) B F No rfl hf hke
  have efs : fsOf (env :: outer) = L :: fsOf outer := by simp [fsOf, hf]
  refine wpAny_call (C dp un gd (env :: outer) base s _ BG XB TB (dicts_push F No D hf st) hd hu (fun q hq => (No q hq).1) ?_)
  intro v s' own' r hp
  rw [efs] at r
  obtain ⟨h₀', T', F', N', hn⟩ := retT_back F N hap r D
  have e := r.same
  have := h v own' s'.heap s'.toks h₀' hp T' F' N' hn
  rw [← e] at this; exact this
end

-- part phit
section
variable {M : Model} {A : Around} {E : Value → Shared → Prop} {s : Shared} {env : Env}
theorem wpP_Subscript {value slice : Expr} {pos : Pos} {Q : Value → Shared → Prop}
    (h : wpP M A (eval value env) (fun o s₁ => wpAny M A (eval slice env) (fun i s₂ => wpAny M A (subscriptTail value slice o i) Q E s₂) E s₁) E s) :
    wpP M A (eval (.Subscript value slice pos) env) Q E s := by
  rw [eval_Subscript]
  exact wpP_bind (wpP_mono h (fun o s₁ h₁ => wpP_any (wpAny_bind (wpAny_holding (wpAny_mono h₁ (fun i s₂ h₂ => wpAny_bind (wpAny_standAt h₂)) fun _ _ x => x)))) fun _ _ x => x)
end
/-! an exception without a context, on its way through a try -/
section
variable {prog : Program} {w : World} {A₀ : Around} {E : Value → Shared → Prop} {s' : Shared} {base g g₀ G : Heap} {outer : List Env} {L a e t : Addr} {m : Str → Option Value} {name : Str} {scope : Scope} {cd cls : Value}
  {vs : List Value} {b₀ : Stmt} {suite : List Stmt} {pos : Pos} {rest hs : List ExceptHandler} {Q : Flow → Shared → Prop} {KF : Frag} {tt : Expr} {nm : Option Str} {body : List Stmt}
  {p : Program} {loose : List Str} {mean : ExcName → Option Value} {mg mb : Str → Option Value}
theorem look_C (R : RaisedS base G (envOf name scope L a cd :: outer) e cls t vs [] s'.heap) (c : CtxNone e s'.heap) (K : Below A₀ base outer g) (hsm : G.UpToSlots s'.heap)
    (k : ∀ h', RaisedS base G (envOf name scope L a cd :: outer) e cls t vs [] h' → CtxNone e h' → G.UpToSlots h' → wpAny (model prog w) (A₀.deeper (envOf name scope L a cd)) (handleBy (.ref e) (envOf name scope L a cd) hs) Q E { s' with heap := h' }) :
    wpAny (model prog w) (A₀.deeper (envOf name scope L a cd)) (noteFrame (.ref e) (envOf name scope L a cd))
      (fun _ s₂ => wpAny (model prog w) (A₀.deeper (envOf name scope L a cd)) (setFlight (.ref e) none) (fun _ s₃ =>
        wpAny (model prog w) (A₀.deeper (envOf name scope L a cd)) (handleBy (.ref e) (envOf name scope L a cd) hs) Q E s₃) E s₂) E s' := by
  obtain ⟨⟨B, hB, hBG, hl, hfl, hnew⟩, htup⟩ := R
  refine ctx_note2 (Around.frames_deeper K.stack) rfl hfl c fun h₁ x u c₁ => ?_
  obtain ⟨x1, x2, x3, x4⟩ := x
  refine ctx_set3 (s := { s' with heap := h₁ }) x1 x2 x3 x4 c₁ fun h₂ y u₂ c₂ => ?_
  exact k h₂ ⟨⟨B, hB, hBG, hl, y, hnew⟩, htup.of_slots (u.trans u₂)⟩ c₂ (hsm.trans (u.trans u₂))
theorem pass_C (R : RaisedS base G (envOf name scope L a cd :: outer) e cls t vs [] s'.heap) (c : CtxNone e s'.heap) (F : Fr g L G m) (K : Below A₀ base outer g) (hsm : G.UpToSlots s'.heap) (XB : KF.In base) (TB : Top p loose mean mg mb base)
    (T : KtsTest prog w KF p loose mg mb name scope L a cd cls tt false)
    (k : ∀ h', RaisedS base G (envOf name scope L a cd :: outer) e cls t vs [] h' → CtxNone e h' → G.UpToSlots h' → wpAny (model prog w) (A₀.deeper (envOf name scope L a cd)) (handleBy (.ref e) (envOf name scope L a cd) rest) Q E { s' with heap := h' }) :
    wpAny (model prog w) (A₀.deeper (envOf name scope L a cd)) (handleBy (.ref e) (envOf name scope L a cd) (.ExceptHandler (some tt) nm body pos :: rest)) Q E s' := by
  obtain ⟨⟨B, hB, hBG, hl, hfl, hnew⟩, htup⟩ := id R
  obtain ⟨g₁, T₁, F₁, K₁⟩ := kts_ground K F hBG hfl.1 hsm
  exact wpAny_handleBy_cons (codeAny_handlers_test (T _ _ _ _ g₁ e m F₁ (XB.keeps K₁.stays) (topRead_of (TB.keeps K₁.stays)) R.toSN.ty fun h' kp => k h' (R.keeps kp) (ctx_keeps kp c) (hsm.trans (Heap.UpToSlots.of_keeps kp)))) (by intro q; cases q)
/-- the clause is met: the suite runs while the exception is held -/
theorem hit_C (R : RaisedS base G (envOf name scope L a cd :: outer) e cls t vs [] s'.heap) (c : CtxNone e s'.heap) (F : Fr g L G m) (K : Below A₀ base outer g) (hsm : G.UpToSlots s'.heap) (XB : KF.In base) (TB : Top p loose mean mg mb base)
    (D : KtsDicts (outer.filterMap (·.frame)) g) (T : KtsTest prog w KF p loose mg mb name scope L a cd cls tt true)
    (k : ∀ h' g' oe ws, KtsTurn (outer.filterMap (·.frame)) g g' → Fr g' L h' m → News g' L h' [(e, oe)] → oe.data = .fields ws → ws[2]? = some .none → Below A₀ base outer g' → KF.In g' → Top p loose mean mg mb g' → KtsDicts (outer.filterMap (·.frame)) g' →
      wpAny (model prog w) ((A₀.deeper (envOf name scope L a cd)).mark (some (.ref e))) (execs (b₀ :: suite) (envOf name scope L a cd)) Q E { s' with heap := h' })
    (hE : PassesOwnAt (model prog w) ((A₀.deeper (envOf name scope L a cd)).mark (some (.ref e))) (A₀.deeper (envOf name scope L a cd)) (envOf name scope L a cd) E := by passes_own) :
    wpAny (model prog w) (A₀.deeper (envOf name scope L a cd)) (handleBy (.ref e) (envOf name scope L a cd) (.ExceptHandler (some tt) none (b₀ :: suite) pos :: rest)) Q E s' := by
  obtain ⟨⟨B₀, _, hBG₀, _, hfl₀, _⟩, _⟩ := id R
  obtain ⟨g₁, T₁, F₁, K₁⟩ := kts_ground K F hBG₀ hfl₀.1 hsm
  refine wpAny_handleBy_cons (codeAny_handlers_test (T _ _ _ _ g₁ e m F₁ (XB.keeps K₁.stays) (topRead_of (TB.keeps K₁.stays)) R.toSN.ty fun h₁ kp => codeAny_handlers_suite ?_)) (by intro q; cases q)
  obtain ⟨⟨B, hB, hBG, hl, hfl, hnew⟩, htup⟩ := R.keeps kp
  obtain ⟨x1, x2, x3, x4⟩ := hfl
  refine ctx_set3 (s := { s' with heap := h₁ }) x1 x2 x3 x4.at (ctx_keeps kp c) fun h₂ y u₂ c₂ => ?_
  have up : G.UpToSlots h₂ := (hsm.trans (Heap.UpToSlots.of_keeps kp)).trans u₂
  obtain ⟨g₂, T₂, F₂, K₂⟩ := kts_ground K F hBG y.1 up
  obtain ⟨oe, ws, hoe, hod, h2⟩ := c₂
  have ne : g₂.get? e = none := T₂.none_ _ (kts_fresh F hBG y.2.1 fun o ho mm => by
    obtain ⟨_, o', ho', hd⟩ := K.frames.mem mm
    cases ho.symm.trans ho'
    obtain ⟨sl, hs⟩ := up _ _ (F.keep _ _ ho) hd
    cases hoe.symm.trans hs
    exact hd _ hod)
  exact wpAny_passesOwnAt hE (k h₂ g₂ oe ws T₂ F₂ (News.more F₂ News.nil hoe (fun es n q => by rw [hod] at q; cases q) ne) hod h2 K₂ (XB.keeps K₂.stays) (TB.keeps K₂.stays) (D.turn T₂))
end

-- part pmeth
section
variable {M : Model} {prog : Program} {w : World} {A : Around} {E : Value → Shared → Prop} {s : Shared} {env : Env}
theorem wpP_Expr {e : Expr} {pos : Pos} {Q : Flow → Shared → Prop} (h : wpP (model prog w) A (eval e env) (fun _ => Q .next) E s)
    (hi : interactive env = false := by rfl) (hs : swapsWith e none pos.line env = pure false := by rfl) : wpP (model prog w) A (exec (.Expr e pos) env) Q E s := by
  rw [exec_Expr env e pos hi hs]
  exact wpP_standAt (wpP_bind (wpP_mono h (fun v s' h' => wpP_any (wpAny_dropValue h')) fun _ _ x => x))
theorem wpP_MethodCall {o : Expr} {name : Str} {apos pos : Pos} {args : List Expr} {pl : Sem Bool} {Q : Value → Shared → Prop}
    (h : wpAny M A (eval o env) (fun ov s₁ => wpAny M A (getMethod ov name pl) (fun fx s₂ => wpP M A (callWith pos fx.1 fx.2 (backTo pos (starEach args env)) []) Q E s₂) E s₁) E s)
    (he : eval (.Call (.Attribute o name apos) args [] pos) env = (do
      let ov ← eval o env
      standAt apos.atName
      let (f, first) ← holding [ov] (getMethod ov name pl)
      callWith pos f first (backTo pos (starEach args env)) []) := by rfl) :
    wpP M A (eval (.Call (.Attribute o name apos) args [] pos) env) Q E s := by
  rw [he]
  exact wpP_bindA (wpAny_mono h (fun ov s₁ h₁ => wpP_standAt (wpP_bindA (wpAny_holding (wpAny_mono h₁ (fun fx s₂ h₂ => h₂) fun _ _ x => x)))) fun _ _ x => x)
theorem wpP_callWith_builtin1 {pos : Pos} {id : String} {first : List Value} {e : Expr} {Q : Value → Shared → Prop}
    (h : wpP M A (eval e env) (fun v s₁ => wpAny M A (call (.builtin id) (first ++ [v])) Q E s₁) E s) (he : starEach [e] env = [(false, eval e env)] := by rfl) :
    wpP M A (callWith pos (.builtin id) first (backTo pos (starEach [e] env)) []) Q E s := by
  have key : wpP M A (evalArgs (.builtin id) true (backTo pos (starEach [e] env)) []) (fun a s₁ => wpAny M A (call (.builtin id) (first ++ a.pos) a.kw) Q E s₁) E s := by
    have hsp : wpP M A (spliced (backTo pos (starEach [e] env))) (fun vs s₁ => wpAny M A (call (.builtin id) (first ++ vs)) Q E s₁) E s := wpP_spliced_more (wpP_mono h (fun v s₁ h₁ => wpP_spliced_nil h₁) fun _ _ x => x) he
    rw [he] at hsp ⊢
    unfold evalArgs
    show wpP M A (spliced [(false, eval e env)] >>= _) _ E s
    refine wpP_bind (wpP_mono hsp (fun vs s₁ h₁ => ?_) fun _ _ x => x)
    refine wpP_holding ?_
    exact wpP_bindA (wpAny_pure (wpP_bindA (wpAny_pure (wpP_pure h₁))))
  unfold callWith
  refine wpP_bind (wpP_holding (wpP_mono key (fun a s₁ h₁ => wpP_standAt ?_) fun _ _ x => x))
  rw [he]
  rw [show (backTo pos [(false, eval e env)]).any (·.1) = false from rfl]
  refine wpP_bindA (wpAny_pure ?_)
  exact wpP_bindA (wpAny_mono h₁ (fun r s₂ hr => wpP_any (wpAny_bind (wpAny_holding (wpAny_point (wpAny_pure hr))))) fun _ _ x => x)
end

-- part pcomp3
section
open PyProof.Rows.LCg
variable {prog : Program} {w : World} {A : Around} {E : Value → Shared → Prop} {s : Shared} {h₀ : Heap} {L : Addr} {m : Str → Option Value} {env : Env}
/-- the turns of a comprehension, whose values may come with objects of their own -/
theorem rest_grow {elt : Expr} {x : Str} {scope : Scope} {cl : List (Str × Addr)} {S : List (Addr × Obj) → Prop} {P : Nat → Value → Prop} {Fin : List Value → List (Addr × Obj) → Prop} {news : List (Addr × Obj)} {n : Nat} (J : List Value → List (Addr × Obj) → Prop) (h0 : J [] news)
    (turn : ∀ i v ys nw I oI C oC D m₂ h tk (E' : Value → Shared → Prop), i < n → ys.length = i → P i v → J ys nw → NsObj oC m₂ → m₂ x = some v → Fr h₀ L h m → News h₀ L h ((I, oI) :: (C, oC) :: (D, lst ys) :: nw) → Off3 I C D nw → ((@Ne Nat I C) ∧ (@Ne Nat I D) ∧ (@Ne Nat C D)) →
      wpAny (model prog w) A (eval elt (compEnvC scope cl C env)) (CompEnd h₀ L m { s with heap := h, toks := tk } I oI C oC D (lst ys) S (fun y nw' => J (ys ++ [y]) nw')) E' { s with heap := h, toks := tk })
    (fin : ∀ ys nw, ys.length = n → J ys nw → Fin ys nw) : CompRest prog w A h₀ L m env elt x scope cl s S P Fin n 0 [] news := by
  have key : ∀ (j i : Nat) (ys : List Value) (nw : List (Addr × Obj)), i + j = n → ys.length = i → J ys nw → CompRest prog w A h₀ L m env elt x scope cl s S P Fin j i ys nw := by
    intro j
    induction j with
    | zero => exact fun i ys nw hi hl hy => CompRest.zero (fin ys nw (by omega) hy)
    | succ j ih =>
      intro i ys nw hi hl hy
      refine CompRest.succ ?_
      intro v I oI C oC D m₂ h tk E' hv hC hx F N off ne
      refine wpAny_mono (turn i v ys nw I oI C oC D m₂ h tk E' (by omega) hl hv hy hC hx F N off ne) (fun y s₂ hq => ?_) fun _ _ e => e
      obtain ⟨h', tk', nw', e, F', N', off', hS, hJ⟩ := hq
      exact ⟨h', tk', nw', e, F', N', off', hS, ih (i + 1) _ _ (by omega) (by rw [List.length_append, hl]; rfl) hJ⟩
  exact key n 0 [] news (by omega) rfl h0
end

-- part pcellc
section
open PyProof.Rows.LCg
variable {prog : Program} {w : World} {A : Around} {E : Value → Shared → Prop} {s : Shared} {h₀ : Heap} {L : Addr} {m : Str → Option Value} {env : Env}
noncomputable def rgO (a n : Int) : Obj := { cls := .type "range_iterator", data := .fields #[rawInt a, rawInt n, rawInt 1] }
noncomputable def frmO : Obj := { cls := .type "dict", data := .dict #[] }
/-- where the four objects of a comprehension lie -/
structure Four (L I C K D : Addr) : Prop where
  IL : I ≠ L
  CL : C ≠ L
  KL : K ≠ L
  DL : D ≠ L
  IC : I ≠ C
  IK : I ≠ K
  ID : I ≠ D
  CK : C ≠ K
  CD : C ≠ D
  KD : K ≠ D
noncomputable def Off4 (I C K D : Addr) (nw : List (Addr × Obj)) : Prop := ∀ p ∈ nw, p.1 ≠ I ∧ p.1 ≠ C ∧ p.1 ≠ K ∧ p.1 ≠ D
noncomputable def led4 (I C K D : Addr) (oI oK : Obj) (ys : List Value) (nw : List (Addr × Obj)) : List (Addr × Obj) := (I, oI) :: (C, frmO) :: (K, oK) :: (D, lst ys) :: nw
/-- what a turn of a comprehension leaves whose name is a cell -/
inductive CellTurn (h₀ : Heap) (L : Addr) (m : Str → Option Value) (s : Shared) (I C K D : Addr) (oI oK : Obj) (ys : List Value) (J : List Value → List (Addr × Obj) → Prop) : Value → Shared → Prop
  | mk (y : Value) (h : Heap) (tk : Nat) (nw : List (Addr × Obj)) (F : Fr h₀ L h m) (N : News h₀ L h (led4 I C K D oI oK ys nw)) (off : Off4 I C K D nw) (j : J (ys ++ [y]) nw) : CellTurn h₀ L m s I C K D oI oK ys J y { s with heap := h, toks := tk }
noncomputable def CellGo (prog : Program) (w : World) (A : Around) (h₀ : Heap) (L : Addr) (m : Str → Option Value) (env : Env) (elt : Expr) (x : Str) (scope : Scope) (cl : List (Str × Addr)) (s : Shared) (a : Int) (n : Nat) (J : List Value → List (Addr × Obj) → Prop) : Prop :=
  ∀ (i : Nat) (ys : List Value) (nw : List (Addr × Obj)) (I C K D : Addr) (oI oK : Obj) (h : Heap) (tk : Nat) (t : Tok) (E' : Value → Shared → Prop), i < n → ys.length = i → J ys nw → oK.data = .cell (some (.int (a + (i : Int)) t)) → Fr h₀ L h m → News h₀ L h (led4 I C K D oI oK ys nw) → Off4 I C K D nw → Four L I C K D →
    wpAny (model prog w) A (eval elt (compEnvC scope ((x, K) :: cl) C env)) (CellTurn h₀ L m { s with heap := h, toks := tk } I C K D oI oK ys J) E' { s with heap := h, toks := tk }
inductive CellInv (h₀ : Heap) (L : Addr) (m : Str → Option Value) (s : Shared) (a : Int) (n : Nat) (J : List Value → List (Addr × Obj) → Prop) (I C K D : Addr) : Nat → Shared → Prop
  | mk (h : Heap) (tk i : Nat) (ys : List Value) (nw : List (Addr × Obj)) (oK : Obj) (v : Option Value) (hi : i ≤ n) (hy : ys.length = i) (hK : oK.data = .cell v) (F : Fr h₀ L h m) (N : News h₀ L h (led4 I C K D (rgO (a + (i : Nat) * 1) ((n : Int) - (i : Nat))) oK ys nw)) (off : Off4 I C K D nw) (j : J ys nw) :
    CellInv h₀ L m s a n J I C K D (n + 1 - i) { s with heap := h, toks := tk }
theorem led_keep {h h' : Heap} {I C K D : Addr} {oI oK : Obj} {ys : List Value} {nw : List (Addr × Obj)} (N : News h₀ L h (led4 I C K D oI oK ys nw)) (hk : ∀ b o, b ≠ I → h.get? b = some o → h'.get? b = some o) (f : Four L I C K D) (off : Off4 I C K D nw) {oI' : Obj} (hI : h'.get? I = some oI') :
    News h₀ L h' (led4 I C K D oI' oK ys nw) := by
  intro p hp
  have h1 := N p
  rcases List.mem_cons.mp hp with rfl | hp
  · exact ⟨hI, (N _ (.head _)).2⟩
  have z := N p (List.mem_cons_of_mem _ hp)
  refine ⟨hk _ _ ?_ z.1, z.2⟩
  rcases List.mem_cons.mp hp with rfl | hp
  · exact Ne.symm f.IC
  rcases List.mem_cons.mp hp with rfl | hp
  · exact Ne.symm f.IK
  rcases List.mem_cons.mp hp with rfl | hp
  · exact Ne.symm f.ID
  · exact (off p hp).1
theorem led_cell {h h' : Heap} {I C K D : Addr} {oI oK : Obj} {ys : List Value} {nw : List (Addr × Obj)} (N : News h₀ L h (led4 I C K D oI oK ys nw)) (hk : ∀ b o, b ≠ K → h.get? b = some o → h'.get? b = some o) (f : Four L I C K D) (off : Off4 I C K D nw) {oK' : Obj} (hK : h'.get? K = some oK') :
    News h₀ L h' (led4 I C K D oI oK' ys nw) := by
  intro p hp
  rcases List.mem_cons.mp hp with rfl | hp
  · exact ⟨hk _ _ f.IK (N _ (.head _)).1, (N _ (.head _)).2⟩
  rcases List.mem_cons.mp hp with rfl | hp
  · exact ⟨hk _ _ f.CK (N _ (.tail _ (.head _))).1, (N _ (.tail _ (.head _))).2⟩
  rcases List.mem_cons.mp hp with rfl | hp
  · exact ⟨hK, (N _ (.tail _ (.tail _ (.head _)))).2⟩
  have z := N p (.tail _ (.tail _ (.tail _ hp)))
  refine ⟨hk _ _ ?_ z.1, z.2⟩
  rcases List.mem_cons.mp hp with rfl | hp
  · exact Ne.symm f.KD
  · exact (off p hp).2.2.1
theorem led_list {h h' : Heap} {I C K D : Addr} {oI oK : Obj} {ys ys' : List Value} {nw : List (Addr × Obj)} (N : News h₀ L h (led4 I C K D oI oK ys nw)) (hk : ∀ b o, b ≠ D → h.get? b = some o → h'.get? b = some o) (f : Four L I C K D) (off : Off4 I C K D nw) (hD : h'.get? D = some (lst ys')) :
    News h₀ L h' (led4 I C K D oI oK ys' nw) := by
  intro p hp
  rcases List.mem_cons.mp hp with rfl | hp
  · exact ⟨hk _ _ f.ID (N _ (.head _)).1, (N _ (.head _)).2⟩
  rcases List.mem_cons.mp hp with rfl | hp
  · exact ⟨hk _ _ f.CD (N _ (.tail _ (.head _))).1, (N _ (.tail _ (.head _))).2⟩
  rcases List.mem_cons.mp hp with rfl | hp
  · exact ⟨hk _ _ f.KD (N _ (.tail _ (.tail _ (.head _)))).1, (N _ (.tail _ (.tail _ (.head _)))).2⟩
  rcases List.mem_cons.mp hp with rfl | hp
  · exact ⟨hD, (N _ (.tail _ (.tail _ (.tail _ (.head _))))).2⟩
  have z := N p (.tail _ (.tail _ (.tail _ (.tail _ hp))))
  exact ⟨hk _ _ (off p hp).2.2.2 z.1, z.2⟩
theorem cell_loop {elt iter : Expr} {x : Str} {px : Pos} {scope : Scope} {cl : List (Str × Addr)} {pos : Pos} {R : Result → Shared → Prop} {I C K D : Addr} {a : Int} {n : Nat} {J : List Value → List (Addr × Obj) → Prop} {nw : List (Addr × Obj)} {oK : Obj} {v : Option Value}
    (hh : A.handled = none) (hsz : n ≤ sizeLine) (hkind : scope.kind = .function) (hx : (compEnvC scope ((x, K) :: cl) C env).kindOf x = some .cell) (f : Four L I C K D) (off : Off4 I C K D nw) (hK : oK.data = .cell v)
    (F : Fr h₀ L s.heap m) (N : News h₀ L s.heap (led4 I C K D (rgO a n) oK [] nw)) (h0 : J [] nw)
    (turn : CellGo prog w A h₀ L m env elt x scope cl s a n J)
    (fin : ∀ h tk ys nw, ys.length = n → J ys nw → Fr h₀ L h m → News h₀ L h ((C, frmO) :: (D, lst ys) :: nw) → Off4 I C K D nw → R (.ok .next) { s with heap := h, toks := tk }) :
    codeAny (model prog w) A (.compLoop (.ListComp elt [⟨.Name x px, iter, [], 0⟩] scope pos) 0 (.ref I) (.ref D) (compEnvC scope ((x, K) :: cl) C env)) R s := by
  refine codeAny_compLoop_tests (fun k s' => CellInv h₀ L m s a n J I C K D k s') ?_ (n + 1) (.mk s.heap s.toks 0 [] nw oK v (Nat.zero_le _) rfl hK F (by simpa using N) off h0)
  clear F N off h0 hK oK v nw
  rintro k s' ⟨h, tk, i, ys, nw, oK, v, hi, hy, hK, F, N, off, j⟩
  have W : Walks prog w A I [I] [I] n (fun i v => ∃ t, v = .int (a + (i : Int)) t) (fun i h => IsRangeIter h I (a + (i : Nat) * 1) ((n : Int) - (i : Nat)) 1) := range_walks hh a n
  have st : IsRangeIter h I (a + (i : Nat) * 1) ((n : Int) - (i : Nat)) 1 := (N _ (.head _)).1
  have hI0 := (N _ (.head _)).2.2
  have hK0 := (N _ (.tail _ (.tail _ (.head _)))).2.2
  have hD0 := (N _ (.tail _ (.tail _ (.tail _ (.head _))))).2.2
  by_cases hlt : i < n
  · refine W.item i _ _ _ hlt st fun u h₂ tk₂ hu st₂ hk₂ => ?_
    obtain ⟨t, rfl⟩ := hu
    have F2 : Fr h₀ L h₂ m := fr_but F hk₂ (Ne.symm f.IL) hI0
    have N2 : News h₀ L h₂ (led4 I C K D (rgO (a + ((i + 1 : Nat) : Int) * 1) ((n : Int) - ((i + 1 : Nat) : Int))) oK ys nw) := led_keep N (fun b o hb e => hk₂ b o (by simpa using hb) e) f off st₂
    clear F N st hk₂ st₂
    refine wpAny_assign_Name (wpAny_storeName_cell (by simpa [compEnvC, relabel] using hkind) hx (by simp [compEnvC]) ⟨oK, (N2 _ (.tail _ (.tail _ (.head _)))).1, hK⟩ fun h₃ hv hs => ?_)
    obtain ⟨oK', eK', hK'⟩ := hv
    have F3 := F2.change hs f.KL hK0
    have N3 := led_cell N2 (fun b o hb e => hs.extBut b o hb e) f off eK'
    clear F2 N2 hs eK' hK
    refine wpAny_tests_nil ?_
    rw [if_pos rfl]
    refine wpAny_mono (turn i ys nw I C K D _ oK' h₃ tk₂ t _ hlt hy j hK' F3 N3 off f) (fun y s₄ h₄ => ?_) fun _ _ e => e
    clear F3 N3
    obtain ⟨h₄, tk₄, nw', F4, N4, off4, j4⟩ := h₄
    refine append_at (hsz := by rw [List.size_toArray, hy]; exact Nat.le_trans hi hsz) (N4 _ (.tail _ (.tail _ (.tail _ (.head _))))).1 fun h₅ hs₅ hD₅ => ?_
    exact ⟨n + 1 - (i + 1), pair_less hlt, .mk h₅ tk₄ (i + 1) (ys ++ [y]) nw' oK' _ hlt (by rw [List.length_append, hy]; rfl) hK' (F4.change hs₅ f.DL hD0) (led_list N4 (fun b o hb e => hs₅.extBut b o hb e) f off4 (hD₅.trans (congrArg some (lst_snoc _ _)))) off4 j4⟩
  · obtain rfl : i = n := Nat.le_antisymm hi (Nat.not_lt.mp hlt)
    refine W.done _ _ _ st fun h₂ tk₂ hk₂ => ?_
    refine fin h₂ tk₂ ys nw hy j (fr_but F hk₂ (Ne.symm f.IL) hI0) (fun p hp => ?_) off
    have k : ∀ q ∈ led4 I C K D (rgO (a + (i : Nat) * 1) ((i : Int) - (i : Nat))) oK ys nw, q.1 ≠ I → h₂.get? q.1 = some q.2 ∧ q.1 ≠ L ∧ h₀.get? q.1 = none := fun q hq hne => ⟨hk₂ _ _ (by simpa using hne) (N q hq).1, (N q hq).2⟩
    rcases List.mem_cons.mp hp with rfl | hp
    · exact k _ (.tail _ (.head _)) (Ne.symm f.IC)
    rcases List.mem_cons.mp hp with rfl | hp
    · exact k _ (.tail _ (.tail _ (.tail _ (.head _)))) (Ne.symm f.ID)
    · exact k _ (.tail _ (.tail _ (.tail _ (.tail _ hp)))) (off p hp).1
inductive CellSrc (prog : Program) (w : World) (A : Around) (h₀ : Heap) (L : Addr) (m : Str → Option Value) (env : Env) (elt : Expr) (x : Str) (scope : Scope) (cl : List (Str × Addr)) (yn : Str) (Q : Flow → Shared → Prop) : Value → Shared → Prop
  | mk (r : Addr) (a b : Int) (t u v : Tok) (n : Nat) (news : List (Addr × Obj)) (s₁ : Shared) (J : List Value → List (Addr × Obj) → Prop) (hh : A.handled = none) (F : Fr h₀ L s₁.heap m) (N : News h₀ L s₁.heap news) (hr : IsRange s₁.heap r a b 1 t u v) (hsm : Builtin.Range.small a b 1 = true)
    (hn : Builtin.Range.rangeSize a b 1 = ((n : Nat) : Int)) (hsz : n ≤ sizeLine) (h0 : J [] news) (turn : ∀ h tk, CellGo prog w A h₀ L m env elt x scope cl { s₁ with heap := h, toks := tk } a n J)
    (fin : ∀ D h tk ys nw, ys.length = n → J ys nw → Fr h₀ L h (fun z => if z = yn then some (.ref D) else m z) → News h₀ L h ((D, lst ys) :: nw) → (∀ p ∈ nw, p.1 ≠ D) → Q .next { s₁ with heap := h, toks := tk }) : CellSrc prog w A h₀ L m env elt x scope cl yn Q (.ref r) s₁
/-- a name bound to a comprehension whose own name is a cell -/
theorem assign_comp_cell {elt iter : Expr} {x y n0 z : Str} {px py : Pos} {scope : Scope} {cl : List (Str × Addr)} {pos spos : Pos} {Q : Flow → Shared → Prop} (_F₀ : Fr h₀ L s.heap m) (hLe : env.locals = L)
    (hsw : swapsWith (.ListComp elt [⟨.Name x px, iter, [], 0⟩] scope pos) (some (.Name y py)) spos.line env = pure true)
    (hclos : closureFor scope env = pure cl) (hsc : scope.names = [(n0, .local), (x, .cell), (z, .free)]) (hkind : scope.kind = .function) (hx : ∀ C K, (compEnvC scope ((x, K) :: cl) C env).kindOf x = some .cell)
    (hnames : ∀ y ∈ scope.names, y.2 = .local → scope.names.lookup y.1 = some .local)
    (hy : env.kindOf y = some .local) (hp : (env.scope.kind == .class || (env.scope.kind == .module && env.locals != env.globals)) = false)
    (h : wpAny (model prog w) A (eval iter env) (CellSrc prog w A h₀ L m env elt x scope cl y Q) E s)
    (hs : ∀ x, foldedSetIterable iter env x = pure x := by intro _; rfl) :
    wpAny (model prog w) A (exec (.Assign [.Name y py] (.ListComp elt [⟨.Name x px, iter, [], 0⟩] scope pos) spos) env) Q E s := by
  subst hLe
  rw [exec_Assign_Name_used _ _ _ _ hsw]
  refine wpAny_bind (wpAny_standAt (wpAny_bind ?_))
  show wpAny _ A (do let _ ← comprehension (.ListComp elt [⟨.Name x px, iter, [], 0⟩] scope pos) scope env _ (newList []) false (eval iter env) (some (assign (.Name y py) env))) _ _ s
  refine wpAny_bind (wpAny_mono (wpAny_comprehension_free (use := some (assign (.Name y py) env)) (Q := fun _ s' => Q .next s') rfl hs hclos hkind hnames
    (wpAny_mono h (fun xv s₁ h₁ => ?_) fun _ _ e => e)) (fun _ s' hq => wpAny_pure (wpAny_pure hq)) fun _ _ e => e)
  obtain ⟨r, a, b, t, u, v, n, news, s₁, J, hh, F, N, hr, hsm, hn, hsz, h0, turn, fin⟩ := h₁
  refine wpAny_pyIter_range hr hsm ?_
  rw [hn]
  have F1 := F.push (h₀ := h₀) (rgO a n)
  have N1 := N.push F (rgO a n)
  have lI : ∀ q ∈ news, q.1 < s₁.heap.objs.size := fun q hq => Heap.lt_size (N q hq).1
  have hL : env.locals < s₁.heap.objs.size := F.ns.lt
  show wpAny _ A (newList []) _ _ { s₁ with heap := s₁.heap.push (rgO a n) }
  clear hr F N h
  generalize hg1 : s₁.heap.push (rgO a n) = g1 at F1 N1 ⊢
  have hg1s : g1.objs.size = s₁.heap.objs.size + 1 := by rw [← hg1, Heap.size_push]
  clear hg1
  generalize s₁.heap.objs.size = I at N1 lI hL hg1s ⊢
  refine wpAny_newObj_type ?_
  have F2 := F1.push (h₀ := h₀) ({ cls := .type "list", dict := none, data := .seq ([] : List Value).toArray } : Obj)
  have N2 := N1.push F1 ({ cls := .type "list", dict := none, data := .seq ([] : List Value).toArray } : Obj)
  have hg2s : (g1.push ({ cls := .type "list", dict := none, data := .seq ([] : List Value).toArray } : Obj)).objs.size = I + 2 := by rw [Heap.size_push, hg1s]
  dsimp only
  generalize g1.push ({ cls := .type "list", dict := none, data := .seq ([] : List Value).toArray } : Obj) = g2 at F2 N2 hg2s ⊢
  rw [hg1s] at N2 ⊢
  clear hg1s N1 F1
  simp only [newFunctionEnv, Option.isSome_some, if_true]
  refine wpAny_bind (wpAny_alloc ?_)
  dsimp only
  have F3 := F2.push (h₀ := h₀) frmO
  have N3 := N2.push F2 frmO
  have hg3s : (g2.push frmO).objs.size = I + 3 := by rw [Heap.size_push, hg2s]
  refine wpAny_bind (wpAny_layCells _ (fun name kind cells => by cases hkc : kind == NameKind.cell <;> simp [hkc]) _ _ _ _ ?_)
  dsimp only
  rw [show ({ cls := .type "dict", data := .dict #[] } : Obj) = frmO from rfl, hsc, show cellsFrom (g2.push frmO).objs.size [(n0, .local), (x, .cell), (z, .free)] cl = (x, (g2.push frmO).objs.size) :: cl from rfl, show pushCells (g2.push frmO) [(n0, .local), (x, .cell), (z, .free)] = (g2.push frmO).push { cls := .type "cell", data := .cell none } from rfl]
  have F4 := F3.push (h₀ := h₀) ({ cls := .type "cell", data := .cell none } : Obj)
  have N4 := N3.push F3 ({ cls := .type "cell", data := .cell none } : Obj)
  generalize (g2.push frmO).push ({ cls := .type "cell", data := .cell none } : Obj) = g4 at F4 N4 ⊢
  rw [hg3s, hg2s] at N4
  rw [hg3s, hg2s]
  clear hg3s N3 F3 N2 F2
  refine wpAny_bind (wpAny_pure (wpAny_pure ?_))
  have f : Four env.locals I (I + 2) (I + 3) (I + 1) := ⟨Nat.ne_of_gt hL, Nat.ne_of_gt (Nat.lt_add_right 2 hL), Nat.ne_of_gt (Nat.lt_add_right 3 hL), Nat.ne_of_gt (Nat.lt_add_right 1 hL), Nat.ne_of_lt (Nat.lt_add_of_pos_right (by decide)), Nat.ne_of_lt (Nat.lt_add_of_pos_right (by decide)), Nat.ne_of_lt (Nat.lt_succ_self _),
    Nat.ne_of_lt (Nat.lt_succ_self _), Nat.ne_of_gt (Nat.lt_succ_self _), Nat.ne_of_gt (Nat.add_lt_add_left (by decide) I)⟩
  have off : Off4 I (I + 2) (I + 3) (I + 1) news := fun p hp => ⟨Nat.ne_of_lt (lI p hp), Nat.ne_of_lt (Nat.lt_add_right 2 (lI p hp)), Nat.ne_of_lt (Nat.lt_add_right 3 (lI p hp)), Nat.ne_of_lt (Nat.lt_add_right 1 (lI p hp))⟩
  have N5 : News h₀ env.locals g4 (led4 I (I + 2) (I + 3) (I + 1) (rgO a n) { cls := .type "cell", data := .cell none } [] news) := fun p hp => by
    rcases List.mem_cons.mp hp with rfl | hp
    · exact N4 _ (.tail _ (.tail _ (.tail _ (.head _))))
    rcases List.mem_cons.mp hp with rfl | hp
    · exact N4 _ (.tail _ (.head _))
    rcases List.mem_cons.mp hp with rfl | hp
    · exact N4 _ (.head _)
    rcases List.mem_cons.mp hp with rfl | hp
    · exact N4 _ (.tail _ (.tail _ (.head _)))
    · exact N4 _ (.tail _ (.tail _ (.tail _ (.tail _ hp))))
  clear N4
  have loop := cell_loop (elt := elt) (iter := iter) (px := px) (pos := pos) (s := { s₁ with heap := g4 }) (R := compPost (model prog w) A E (some (assign (.Name y py) env)) (fun _ s' => Q .next s') (.ref (I + 1)) (I + 2)) hh hsz hkind (hx _ _) f off rfl F4 N5 h0 (turn _ _) (fun h tk ys nw hyl j F' N' off' => by
    show wpAny _ A (assign (.Name y py) env (.ref (I + 1))) _ _ _
    refine wpAny_assign_Name (wpAny_storeName_local hy F'.ns (fun h₂ hn₂ hs₂ => ?_) hp)
    have hL₀ : h₀.get? env.locals = none := Heap.get?_none_of_le F'.above
    have F₂ : Fr h₀ env.locals h₂ (fun z => if z = y then some (.ref (I + 1)) else m z) := ⟨hn₂, fun b o e => hs₂.extBut b o (fun q => by rw [q, hL₀] at e; cases e) (F'.keep b o e), F'.above⟩
    have zC := N' _ (.head _)
    refine ⟨fun _ => none, NsObj.ns (o := frmO) ⟨#[], _, rfl, ?_, fun _ => rfl⟩ (hs₂.extBut _ _ f.CL zC.1), fun h'' hs'' => fin (I + 1) h'' _ ys nw hyl j (F₂.change hs'' f.CL zC.2.2) (fun p hp => ?_) fun p hp => (off' p hp).2.2.2⟩
    · intro e he; simp at he
    · have z := N' p (.tail _ hp)
      refine ⟨hs''.extBut _ _ ?_ (hs₂.extBut _ _ z.2.1 z.1), z.2⟩
      rcases List.mem_cons.mp hp with rfl | hp
      · exact Ne.symm f.CD
      · exact (off' p hp).2.1)
  exact codeAny_compStart_list loop (wpAny_pyIter_rangeiter (x := a) (left := n) (step := 1) (N5 _ (.head _)).1 loop)
end
section
open PyProof.Rows.LCg PyProof.Rows.LCt
variable {prog : Program} {w : World} {A : Around} {E : Value → Shared → Prop} {s : Shared} {h₀ : Heap} {L : Addr} {m : Str → Option Value} {env : Env}
/-- what a turn leaves whose test fails -/
inductive SkipEnd (h₀ : Heap) (L : Addr) (m : Str → Option Value) (s : Shared) (l : List (Addr × Obj)) (R : Prop) : Shared → Prop
  | mk (h : Heap) (tk : Nat) (F : Fr h₀ L h m) (N : News h₀ L h l) (r : R) : SkipEnd h₀ L m s l R { s with heap := h, toks := tk }
/-- the turns of a comprehension with a test, which change nothing -/
theorem rest_acc {ct elt : Expr} {x : Str} {scope : Scope} {cl : List (Str × Addr)} {S : List (Addr × Obj) → Prop} {P : Nat → Value → Prop} {Fin : List Value → List (Addr × Obj) → Prop} {news : List (Addr × Obj)} {n : Nat} (Acc : Nat → List Value → Prop) (h0 : Acc 0 [])
    (turn : ∀ i v ys I oI C oC D m₂ h tk (E' : Value → Shared → Prop), i < n → Acc i ys → P i v → NsObj oC m₂ → m₂ x = some v → Fr h₀ L h m → News h₀ L h ((I, oI) :: (C, oC) :: (D, lst ys) :: news) →
      wpAny (model prog w) A (isTrue ct (compEnvC scope cl C env) (eval ct (compEnvC scope cl C env))) (fun ok s' => if ok = true then
        wpAny (model prog w) A (eval elt (compEnvC scope cl C env)) (EltEnd h₀ L m { s with heap := h, toks := tk } ((I, oI) :: (C, oC) :: (D, lst ys) :: news) (fun y => Acc (i + 1) (ys ++ [y]))) E' s'
        else SkipEnd h₀ L m { s with heap := h, toks := tk } ((I, oI) :: (C, oC) :: (D, lst ys) :: news) (Acc (i + 1) ys) s') E' { s with heap := h, toks := tk }) (hS : S news)
    (fin : ∀ ys, Acc n ys → Fin ys news) : CompRestT prog w A h₀ L m env ct elt x scope cl s S P Fin n 0 [] news := by
  have key : ∀ (j i : Nat) (ys : List Value), i + j = n → Acc i ys → CompRestT prog w A h₀ L m env ct elt x scope cl s S P Fin j i ys news := by
    intro j
    induction j with
    | zero => exact fun i ys hi hy => CompRestT.zero (fin ys (by rw [← hi]; exact hy))
    | succ j ih =>
      intro i ys hi hy
      refine CompRestT.succ ?_
      intro v I oI C oC D m₂ h tk E' hv hC hx F N off ne
      refine wpAny_mono (turn i v ys I oI C oC D m₂ h tk E' (by omega) hy hv hC hx F N) (fun ok s₂ hq => ?_) fun _ _ e => e
      cases ok with
      | true =>
        rw [if_pos rfl] at hq ⊢
        refine wpAny_mono hq (fun y s₃ hq => ?_) fun _ _ e => e
        obtain ⟨h', tk', F', N', hr⟩ := hq
        exact ⟨h', tk', news, rfl, F', N', off, hS, ih (i + 1) _ (by omega) hr⟩
      | false =>
        rw [if_neg Bool.false_ne_true] at hq ⊢
        obtain ⟨h', tk', F', N', hr⟩ := hq
        exact ⟨h', tk', news, rfl, F', N', off, hS, ih (i + 1) _ (by omega) hr⟩
  exact key n 0 [] (by omega) h0
end
theorem mem_ap4 {own ps : List (Addr × Obj)} {x1 x2 x3 x : Addr × Obj} : x ∈ own ++ x1 :: x2 :: x3 :: x :: ps := List.mem_append_right _ (.tail _ (.tail _ (.tail _ (.head _))))

-- part head
set_option maxRecDepth 100000 in
set_option maxHeartbeats 8000000 in
open_top hd for PySem.Challenge.rw_pm0015_02

section
local macro_rules | `(tactic| walk_at $s:str) => if ["exec For Name Name cons nil", "exec While Compare cons nil", "pyIter str", "pyIter ref", "Lv", "LvE", "TurnEnd", "wpP", "FnAnd", "LvT", "call ref"].contains s.getString then `(tactic| refine Hold.mk ?_) else Lean.Macro.throwUnsupported
local macro_rules | `(tactic| walk_at $s:str) => if ["eval Call", "eval Compare", "eval BinOp", "eval Subscript"].contains s.getString then `(tactic| (k_fold; walk_at $s)) else Lean.Macro.throwUnsupported
local macro_rules | `(tactic| walk_at "eval Name") => `(tactic| (k_here; (first | (with_reducible show wpAny _ _ (eval (Expr.Name _ _) (envOf _ _ _ _ _)) _ _ _) | (with_reducible show wpAny _ _ (eval (Expr.Name _ _) (envOfC _ _ _ _ _)) _ _ _)); k_dflt (refine' ld ?k1 ?k2 ?_; (case k1 => k_asm); (case k2 => (first | exact (Eq.refl (some _)) | with_reducible assumption | assumption)); k_whole)))
local macro_rules | `(tactic| walk_at "execs cons") => `(tactic| ((with_reducible refine wpAny_execs_cons ?_); (try dsimp only); k_fold; (try k_gentoks)))
local macro_rules | `(tactic| walk_at "storeName") => `(tactic| (k_here; k_dflt (refine' storeX_Lm ?F ?N ?_ ?a ?b; (case F => k_asm); (case N => k_asm); (case a => rfl); (case b => rfl); k_whole; intro m' h' F' N'; (try k_sweep))))
local macro_rules | `(tactic| k_mem) => `(tactic| first | exact mem_ap4 | with_reducible assumption | exact Lx.mem_x | exact Lx.mem_dx | exact Lx.mem_pb | exact Lx.mem_xa | exact Lx.mem_dxa | exact Lx.mem_pba)
theorem top_off_c257 : True := by
  w_top off
  exact True.intro
-- part c257
noncomputable def name257 : List Nat → List Nat
  | [] => []
  | [c] => if c = 34 then [] else [c]
  | c :: d :: r => if c = 34 then (if d = 34 then 34 :: name257 r else []) else c :: name257 (d :: r)

theorem name_ne {c : Nat} {r : List Nat} (h : c ≠ 34) : name257 (c :: r) = c :: name257 r := by
  cases r with
  | nil => simp [name257, h]
  | cons d r => simp [name257, h]
theorem name_q {r : List Nat} (h : ∀ r', r ≠ 34 :: r') : name257 (34 :: r) = [] := by
  cases r with
  | nil => simp [name257]
  | cons d r =>
    have : d ≠ 34 := fun e => h r (by rw [e])
    simp [name257, this]
noncomputable def v257 (t : Str) : Str := if (t.cps.toList.drop 3).take 2 = [32, 34] then strOf (name257 (t.cps.toList.drop 5)) else ⟨#[]⟩
/-- what parse257 gives back -/
inductive P257 (text : Str) : Value → List (Addr × Obj) → Prop
  | mk (h3 : text.cps.toList.take 3 = [50, 53, 55]) (t : Tok) : P257 text (.str (v257 text) t) []
theorem P257.of {text x : Str} (h3 : text.cps.toList.take 3 = [50, 53, 55]) (e : v257 text = x) (t : Tok) : P257 text (.str x t) [] := e ▸ .mk h3 t
/-- how far the loop has come -/
structure At57 (text dn : Str) (i : Nat) : Prop where
  h2 : (text.cps.toList.drop 3).take 2 = [32, 34]
  h5 : 5 ≤ i
  hi : i ≤ text.length
  hdl : dn.length ≤ i
  heq : dn.cps.toList ++ name257 (text.cps.toList.drop i) = name257 (text.cps.toList.drop 5)
section
variable {text dn : Str} {i : Nat}
theorem At57.start (h2 : (text.cps.toList.drop 3).take 2 = [32, 34]) : At57 text ⟨#[]⟩ 5 := by
  have := congrArg List.length h2
  rw [List.length_take, List.length_drop, Array.length_toList] at this
  refine ⟨h2, Nat.le_refl _, ?_, Nat.zero_le _, rfl⟩
  show 5 ≤ text.cps.size
  rw [show ([32, 34] : List Nat).length = 2 from rfl] at this
  have := this ▸ Nat.min_le_right 2 (text.cps.size - 3)
  omega
theorem At57.fin (h : At57 text dn i) (e : name257 (text.cps.toList.drop i) = []) : v257 text = dn := by
  rw [v257, if_pos h.h2]
  apply str_ext
  rw [← h.heq, e, List.append_nil]
  rfl
theorem At57.stop (h : At57 text dn i) (hl : ¬ (i : Int) < (text.length : Int)) : v257 text = dn := h.fin (by rw [drop_end (i := i) (Int.ofNat_le.mp (Int.not_lt.mp hl))]; rfl)
theorem At57.one (h : At57 text dn i) (ha : (Txt.item text (i : Int) == Str.ofString "\"") = true) (hl : (text.length : Int) ≤ (i : Int) + 1) : v257 text = dn := by
  by_cases hi : i < text.length
  · obtain ⟨c, hi1⟩ := has_at hi
    rw [item_at hi1] at ha
    have hc := of_decide_eq_true (one_beq (d := 34) (by decide) ha)
    subst hc
    exact h.fin (by rw [drop_at' hi1, drop_end (i := i + 1) (Int.ofNat_le.mp hl)]; rfl)
  · exact h.stop fun e => hi (Int.ofNat_lt.mp e)
theorem At57.two (h : At57 text dn i) (ha : (Txt.item text (i : Int) == Str.ofString "\"") = true) (hl : ¬ (text.length : Int) ≤ (i : Int) + 1) (hb : (Txt.item text ((i : Int) + 1) != Str.ofString "\"") = true) : v257 text = dn := by
  have hl : i + 1 < text.length := Int.ofNat_lt.mp (Int.not_le.mp hl)
  obtain ⟨c, hi1⟩ := has_at (Nat.lt_of_succ_lt hl)
  obtain ⟨d, hi2⟩ := has_at hl
  rw [item_at hi1] at ha
  rw [item1 hi2] at hb
  have hc := of_decide_eq_true (one_beq (d := 34) (by decide) ha)
  have hd := of_decide_eq_true (one_bne (d := 34) (by decide) hb)
  subst hc
  exact h.fin (by rw [drop_at' hi1, drop_at' hi2, name_q (fun r e => hd (List.cons.inj e).1)])
theorem At57.dbl (h : At57 text dn i) (ha : (Txt.item text (i : Int) == Str.ofString "\"") = true) (hl : ¬ (text.length : Int) ≤ (i : Int) + 1) (hb : (Txt.item text ((i : Int) + 1) != Str.ofString "\"") = false) : At57 text (dn ++ Txt.item text (i : Int)) (i + 2) := by
  have hl : i + 1 < text.length := Int.ofNat_lt.mp (Int.not_le.mp hl)
  obtain ⟨c, hi1⟩ := has_at (Nat.lt_of_succ_lt hl)
  obtain ⟨d, hi2⟩ := has_at hl
  rw [item_at hi1] at ha ⊢
  rw [item1 hi2] at hb
  have hc := of_decide_eq_true (one_beq (d := 34) (by decide) ha)
  have hd := of_decide_eq_false (one_bne (d := 34) (by decide) hb)
  subst hc
  obtain rfl : d = 34 := Decidable.not_not.mp hd
  refine ⟨h.h2, Nat.le_trans h.h5 (Nat.le_add_right ..), hl, ?_, ?_⟩
  · rw [Str.length_append]; exact Nat.le_trans (Nat.add_le_add_right h.hdl 1) (Nat.le_succ _)
  · rw [← h.heq, drop_at' hi1, drop_at' hi2, Str.cps_append, Array.toList_append, List.append_assoc]
    simp [name257]
theorem At57.step (h : At57 text dn i) (hl : (i : Int) < (text.length : Int)) (ha : (Txt.item text (i : Int) == Str.ofString "\"") = false) : At57 text (dn ++ Txt.item text (i : Int)) (i + 1) := by
  have hl : i < text.length := Int.ofNat_lt.mp hl
  obtain ⟨c, hi1⟩ := has_at hl
  rw [item_at hi1] at ha ⊢
  have hc := of_decide_eq_false (one_beq (d := 34) (by decide) ha)
  refine ⟨h.h2, Nat.le_succ_of_le h.h5, hl, ?_, ?_⟩
  · rw [Str.length_append]; exact Nat.add_le_add_right h.hdl 1
  · rw [← h.heq, drop_at' hi1, name_ne hc, Str.cps_append, Array.toList_append, List.append_assoc]
    rfl
theorem At57.lt1 (hl : (i : Int) < (text.length : Int)) : text.length - (i + 1) < text.length - i := Nat.sub_lt_sub_left (Int.ofNat_lt.mp hl) (Nat.lt_succ_self i)
theorem At57.lt2 (hl : (i : Int) < (text.length : Int)) : text.length - (i + 2) < text.length - i := Nat.sub_lt_sub_left (Int.ofNat_lt.mp hl) (Nat.lt_add_of_pos_right (by decide))
end
inductive inv257 (text : Str) (m : Str → Option Value) : Nat → List (Addr × Obj) → Prop
  | mk (i : Nat) (dn : Str) (t1 t2 t3 t4 : Tok) (hr : m (Str.ofString "resp") = some (.str text t4)) (hii : m (Str.ofString "i") = some (.int i t1)) (hn : m (Str.ofString "n") = some (.int text.length t2)) (hdn : m (Str.ofString "dirname") = some (.str dn t3)) (h : At57 text dn i) : inv257 text m (text.length - i) []
set_option maxRecDepth 100000 in
set_option maxHeartbeats 8000000 in
theorem p257_k (w : World) {p : Program} {loose : List Str} {mean : ExcName → Option Value} {mg mb : Str → Option Value} (text : Str) (tk0 : Tok) (hlen : text.length ≤ 1048576) :
    Ctr PySem.Challenge.rw_pm0015_02.row.prog w (Mine.hd.heap_39 w.params) p loose mean mg mb 2 20 107 [.str text tk0] [] (P257 text)
      (fun cls vs => cls = .ref 79 ∧ vs = [.str text tk0] ∧ text.cps.toList.take 3 ≠ [50, 53, 55]) noErrN := by
  k_fill
  (k_dflt (refine' ctr_enter ?k6 ?k7 ?k9 ?kB ?_ ?c2 ?c3 ?c4 ?c5; (case k6 => k_is); (case k7 => k_is); (case k9 => exact fun _ => BindsTo.of_eq rfl); (case c5 => decide); (case kB => exact locs rfl); (case c2 => exact rfl); (case c3 => exact rfl); (case c4 => exact rfl); k_whole))
  intro dp un gd fr base g L h₁ s hd hu hg B F N X T hlt D
  (try dsimp only)
  k_fold
  k_steps
  all_goals (try unfold Hold)
  all_goals (rename (Txt.slice text none (some 3) != _) = _ => h3; rw [str_bne (x := Txt.slice text none (some 3)) (slice_ns text 3) (m := [50, 53, 55]) rfl] at h3)
  · (with_reducible rename RaisedS _ _ _ _ _ _ _ _ _ => R9)
    (with_reducible rename Heap.UpToSlots _ _ => U9)
    exact flew_S R9 U9 ⟨rfl, rfl, by simpa using h3⟩
  all_goals (replace h3 : text.cps.toList.take 3 = [50, 53, 55] := by simpa using h3)
  all_goals (rename (Txt.slice text (some 3) (some 5) != _) = _ => h5; rw [str_bne (x := Txt.slice text (some 3) (some 5)) (slice_ss text 3 5) (m := [32, 34]) rfl] at h5)
  · k_steps
    unfold Hold
    (with_reducible rename Fr _ _ _ _ => F9)
    exact ⟨_, _, [], rfl, F9, News.nil, .of h3 (by rw [v257, if_neg (by simpa using h5)]; rfl) _⟩
  · (with_reducible rename Fr _ _ _ _ => F9)
    (with_reducible rename News _ _ _ _ => N9)
    refine while_inv (fun k m news => inv257 text m k news) F9 N9 (n₀ := text.length - 5) (.mk 5 ⟨#[]⟩ _ _ _ _ (by rfl) (by rfl) (by rfl) (by rfl) (.start (by simpa using h5))) ?_
    clear F9 N9 h5
    rintro n m₁ news₁ h tk1 ⟨i, dn, t1, t2, t3, t4, hr, hii, hn, hdn, hat⟩ F N
    have hb1 := hat.h5
    have hb2 := hat.hi
    have hb3 := hat.hdl
    k_steps
    · rename (Txt.item text (i : Int) == _) = _ => hc
      rename (text.length : Int) ≤ (i : Int) + 1 => hl
      have hx := hat.one hc hl
      unfold Hold
      dsimp only [TurnEnd]
      k_steps
      unfold Hold
      (with_reducible rename Fr _ _ _ _ => F9)
      exact ⟨_, _, [], rfl, F9, News.nil, .of h3 hx _⟩
    · rename (Txt.item text (i : Int) == _) = _ => hc
      rename (Txt.item text ((i : Int) + 1) != _) = _ => hd1
      rename ¬ ((text.length : Int) ≤ (i : Int) + 1) => hl
      have hx := hat.two hc hl hd1
      unfold Hold
      dsimp only [TurnEnd]
      k_steps
      unfold Hold
      (with_reducible rename Fr _ _ _ _ => F9)
      exact ⟨_, _, [], rfl, F9, News.nil, .of h3 hx _⟩
    · unfold Hold
      rename (Txt.item text (i : Int) == _) = _ => hc
      rename (Txt.item text ((i : Int) + 1) != _) = _ => hd1
      rename ¬ ((text.length : Int) ≤ (i : Int) + 1) => hl
      rename (i : Int) < (text.length : Int) => hlt
      (with_reducible rename Fr _ _ _ _ => F9)
      (with_reducible rename News _ _ _ _ => N9)
      exact ⟨_, _, _, _, _, At57.lt2 hlt, rfl, F9, N9, .mk (i + 2) (dn ++ Txt.item text (i : Int)) _ _ _ _ (by exact hr) (by rfl) (by exact hn) (by rfl) (hat.dbl hc hl hd1)⟩
    · unfold Hold
      rename (Txt.item text (i : Int) == _) = _ => hc
      rename (i : Int) < (text.length : Int) => hlt
      (with_reducible rename Fr _ _ _ _ => F9)
      (with_reducible rename News _ _ _ _ => N9)
      exact ⟨_, _, _, _, _, At57.lt1 hlt, rfl, F9, N9, .mk (i + 1) (dn ++ Txt.item text (i : Int)) _ _ _ _ (by exact hr) (by rfl) (by exact hn) (by rfl) (hat.step hlt hc)⟩
    · rename ¬ ((i : Int) < (text.length : Int)) => hl
      have hx := hat.stop hl
      k_steps
      unfold Hold
      (with_reducible rename Fr _ _ _ _ => F9)
      exact ⟨_, _, [], rfl, F9, News.nil, .of h3 hx _⟩

theorem top_off_c229 : True := by
  w_top off
  exact True.intro
-- part c229
noncomputable def Form229 (text : Str) : Prop := port229 (insideL text.cps.toList) = none
/-- what parse229 gives back -/
inductive P229 (text host : Str) (th : Tok) : Value → List (Addr × Obj) → Prop
  | mk (h3 : text.cps.toList.take 3 = [50, 50, 57]) (y : List Nat) (n : Int) (a : Addr) (tn : Tok) (hp : port229 (insideL text.cps.toList) = some y) (hi : PySem.intText? (strOf y) = some n) : P229 text host th (.ref a) [(a, { cls := .type "tuple", data := .seq #[.str host th, .int n tn] })]
/-- between its statements -/
inductive Mid229 (g : Heap) (L pr : Addr) (oP : Obj) (text : Str) (tk0 : Tok) (s : Shared) (P : (Str → Option Value) → Prop) : Flow → Shared → Prop
  | mk (h : Heap) (tk : Nat) (m : Str → Option Value) (F : Fr g L h m) (N : News g L h [(pr, oP)]) (h1 : m (Str.ofString "resp") = some (.str text tk0)) (h2 : m (Str.ofString "peer") = some (.ref pr)) (p : P m) : Mid229 g L pr oP text tk0 s P .next { s with heap := h, toks := tk }
theorem slice_len {x y : Str} {f r : Nat} (h : y.cps.toList = (x.cps.toList.drop f).take r) : y.length ≤ x.length := by
  have e := congrArg List.length h
  rw [List.length_take, List.length_drop, Array.length_toList, Array.length_toList] at e
  show y.cps.size ≤ x.cps.size
  exact e ▸ Nat.le_trans (Nat.min_le_right ..) (Nat.sub_le ..)
theorem repr_fit {y text : Str} (hl : y.length ≤ 640) (h : ∀ c ∈ y.cps.toList, c < 16 ^ 8) : (reprText y).length ≤ sizeLine := by
  refine Nat.le_trans (StrLaws.reprText_len y h) ?_
  have : sizeLine = 16777216 := by decide +kernel
  omega
set_option maxRecDepth 100000 in
set_option maxHeartbeats 8000000 in
theorem p229_k (w : World) {p : Program} {loose : List Str} {mean : ExcName → Option Value} {mg mb : Str → Option Value} (text : Str) (tk0 : Tok) (pr : Addr) (host : Str) (th ti : Tok) (hlen : text.length ≤ 600) (hsg : ∀ c ∈ text.cps.toList, c < 16 ^ 8) :
    CtrP PySem.Challenge.rw_pm0015_02.row.prog w (Mine.hd.heap_39 w.params) p loose mean mg mb 2 20 100 [.str text tk0, .ref pr] [(pr, { cls := .type "tuple", data := .seq #[.str host th, .int 21 ti] })]
      (P229 text host th)
      (fun cls vs => vs = [.str text tk0] ∧ ((cls = .ref 79 ∧ text.cps.toList.take 3 ≠ [50, 50, 57]) ∨ (cls = .ref 91 ∧ text.cps.toList.take 3 = [50, 50, 57] ∧ Form229 text)))
      (fun X => X = "ValueError" ∧ text.cps.toList.take 3 = [50, 50, 57] ∧ ∃ y, port229 (insideL text.cps.toList) = some y ∧ PySem.intText? (strOf y) = none) := by
  k_fill
  (k_dflt (refine' ctrP_enter ?k6 ?k7 ?k9 ?kB ?_ ?c2 ?c3 ?c4 ?c5; (case k6 => k_is); (case k7 => k_is); (case k9 => exact fun _ => BindsTo.of_eq rfl); (case c5 => decide); (case kB => exact locs rfl); (case c2 => exact rfl); (case c3 => exact rfl); (case c4 => exact rfl); k_whole))
  intro dp un gd fr base g L h₁ s hd hu hg B F N X T hlt D
  (try dsimp only)
  refine wpP_split 9 ?_
  dsimp only [List.take, List.drop]
  k_fold
  have e3 : ∀ {b : Bool}, (Txt.slice text none (some 3) != Str.ofString "229") = b → (!decide (text.cps.toList.take 3 = [50, 50, 57])) = b := fun h => by
    rwa [str_bne (x := Txt.slice text none (some 3)) (slice_ns text 3) (m := [50, 50, 57]) rfl] at h
  refine wpAny_execs_cons (wpAny_mono (Q := fun fl s' => Mid229 g L pr { cls := .type "tuple", data := .seq #[.str host th, .int 21 ti] } text tk0 s (fun _ => text.cps.toList.take 3 = [50, 50, 57]) fl s') ?m1 (fun fl s' hm => ?r1) (fun _ _ e => e))
  (case m1 =>
    k_steps
    all_goals (try unfold Hold)
    all_goals (rename (Txt.slice text none (some 3) != _) = _ => h3; replace h3 := e3 h3)
    · ((with_reducible rename RaisedS _ _ _ _ _ _ _ _ _ => R9); (with_reducible rename Heap.UpToSlots _ _ => U9))
      exact flew_S R9 U9 ⟨rfl, .inl ⟨rfl, by simpa using h3⟩⟩
    · (with_reducible rename Fr _ _ _ _ => F9)
      (with_reducible rename News _ _ _ _ => N9)
      exact .mk _ _ _ F9 N9 (by rfl) (by rfl) (by simpa using h3))
  clear N F e3
  obtain ⟨h₂, tk₂, m₂, F, N, hm1, hm2, h3⟩ := hm
  dsimp only
  refine wpAny_execs_cons (wpAny_mono (Q := fun fl s' => Mid229 g L pr { cls := .type "tuple", data := .seq #[.str host th, .int 21 ti] } text tk0 s (fun m => ∃ t, m (Str.ofString "left") = some (.int (Txt.find text (Str.ofString "(")) t)) fl s') ?m2 (fun fl s' hm => ?r2) (fun _ _ e => e))
  (case m2 =>
    k_steps
    (try unfold Hold)
    (with_reducible rename Fr _ _ _ _ => F9)
    (with_reducible rename News _ _ _ _ => N9)
    exact .mk _ _ _ F9 N9 (by exact hm1) (by exact hm2) ⟨_, rfl⟩)
  clear F N hm1 hm2
  obtain ⟨h₃, tk₃, m₃, F, N, hm1, hm2, tl, hm3⟩ := hm
  dsimp only
  rcases find_cases text (Str.ofString "(") 40 (by decide) with ⟨hf, hfn⟩ | ⟨f, hf, hfl, hfa, hfn⟩
  · k_steps
    (try unfold Hold)
    (with_reducible rename RaisedS _ _ _ _ _ _ _ _ _ => R9)
    (with_reducible rename Heap.UpToSlots _ _ => U9)
    exact flew_S R9 U9 ⟨rfl, .inr ⟨rfl, h3, port_empty (insideL_none _ hfn)⟩⟩
  have hfi : Txt.find text (Str.ofString "(") + 1 = ((f + 1 : Nat) : Int) := by rw [hf]; rfl
  rcases find3_cases text (Str.ofString ")") 41 (f + 1) (by decide) (by omega) with ⟨hr, hrn⟩ | ⟨r, hr, hrf, hrl, hra, hrn⟩
  · rw [← hfi] at hr
    k_steps
    (try unfold Hold)
    (with_reducible rename RaisedS _ _ _ _ _ _ _ _ _ => R9)
    (with_reducible rename Heap.UpToSlots _ _ => U9)
    exact flew_S R9 U9 ⟨rfl, .inr ⟨rfl, h3, port_empty (by rw [inside_open hfa hfn, tillClose_none _ _ hrn])⟩⟩
  have hb := inside_both hfa hfn hra hrf hrn
  obtain ⟨c, hc⟩ := has_at (x := text) (i := f + 1) (by omega)
  obtain ⟨d, hd'⟩ := has_at (x := text) (i := r - 1) (by omega)
  obtain ⟨pe1, pe2⟩ := port_ends hfa hra hrf hc hd'
  rw [← hb] at pe1 pe2
  have i1 : Txt.item text (Txt.find text (Str.ofString "(") + 1) = ⟨#[c]⟩ := by rw [hfi]; exact item_at hc
  have i2 : Txt.item text (Txt.find3 text (Str.ofString ")") (Txt.find text (Str.ofString "(") + 1) - 1) = ⟨#[d]⟩ := by
    rw [hfi, hr, show ((r : Int) - 1) = ((r - 1 : Nat) : Int) by omega]; exact item_at hd'
  have i3 : (Txt.slice text (some (Txt.find text (Str.ofString "(") + 1)) (some (Txt.find3 text (Str.ofString ")") (Txt.find text (Str.ofString "(") + 1)))).cps.toList = insideL text.cps.toList := by
    rw [hfi, hr, slice_ss, hb]
  have e4 : ∀ {b : Bool}, (Txt.item text (Txt.find text (Str.ofString "(") + 1) != Txt.item text (Txt.find3 text (Str.ofString ")") (Txt.find text (Str.ofString "(") + 1) - 1)) = b → decide (c ≠ d) = b := fun h => by
    rw [i1] at h; exact one_bne i2 h
  rw [← hfi] at hr
  k_steps
  all_goals (try unfold Hold)
  · ((with_reducible rename RaisedS _ _ _ _ _ _ _ _ _ => R9); (with_reducible rename Heap.UpToSlots _ _ => U9))
    rename (Txt.item text _ != _) = _ => h4
    exact flew_S R9 U9 ⟨rfl, .inr ⟨rfl, h3, pe1 (of_decide_eq_true (e4 h4))⟩⟩
  · ((with_reducible rename RaisedS _ _ _ _ _ _ _ _ _ => R9); (with_reducible rename Heap.UpToSlots _ _ => U9))
    rename (Txt.item text _ != _) = _ => h4
    have h5 := of_decide_eq_false (e4 h4)
    obtain ⟨rest, h6, h7⟩ := pe2 (Decidable.of_not_not h5)
    rename List.map _ _ = Txt.split _ _ => hlk
    rename ((List.length _ : Nat) : Int) ≠ 5 => hl5
    have hn := congrArg List.length hlk
    rw [List.length_map, i1] at hn
    refine flew_S R9 U9 ⟨rfl, .inr ⟨rfl, h3, ?_⟩⟩
    show port229 _ = none
    rw [h6]
    exact (port_parts (i3.trans h6) h7).1 (by omega)
  · rename (Txt.item text _ != _) = _ => h4
    have h5 := of_decide_eq_false (e4 h4)
    obtain ⟨rest, h6, h7⟩ := pe2 (Decidable.of_not_not h5)
    rename List.map _ _ = Txt.split _ _ => hlk
    rename ((List.length _ : Nat) : Int) = 5 => hl5
    have hn := congrArg List.length hlk
    rw [List.length_map, i1] at hn
    refine wpP_execs_cons (wpP_Assign (wpP_Call ?_))
    k_steps
    unfold Hold
    refine wpP_callWith_type1 ?_
    k_steps
    unfold Hold
    rename Str => y
    rename (List.map _ _)[_]? = some _ => hy
    rename StrsAre _ _ => hsa
    rename ∀ _ ∈ List.map _ _, Str.length _ ≤ _ => hle
    have hyl := hle _ (List.mem_of_getElem? hy)
    (rename List.map _ _ = Txt.split _ _ => hlk)
    rw [hlk, i1] at hy
    have hport : port229 (insideL text.cps.toList) = some y.cps.toList := by
      rw [h6]; exact (port_parts (i3.trans h6) h7).2 y (by omega) hy
    have hsl := slice_len (i3.trans hb)
    have h640 : y.length ≤ 640 := Nat.le_trans (Nat.le_trans hyl hsl) (Nat.le_trans hlen (by decide))
    have hrp := repr_fit (text := text) h640 (fun a ha => hsg a (insideL_mem _ a (port_mem hport a ha)))
    cases hq : PySem.intText? y with
    | none =>
      refine int_bad rfl h640 hq hrp ?_
      intro h'' tk'' e hx
      (with_reducible rename Fr _ _ _ _ => F9)
      (with_reducible rename News _ _ _ _ => N9)
      refine leave_newS B hx F9 N9 ?_
      intro h4 R _ U
      exact flew_N R U ⟨rfl, h3, _, hport, by rw [strOf_toList]; exact hq⟩
    | some n =>
      refine wpP_any (KIN.call_text hq h640 ?_)
      dsimp only
      k_fold
      k_steps
      unfold Hold
      refine wpP_any ?_
      k_fold
      k_steps
      unfold Hold
      show Lv s g _ _ _
      (with_reducible rename Fr _ _ _ _ => F9)
      (with_reducible rename News _ _ _ _ => N9)
      exact ⟨_, _, _, rfl, F9, news_pick N9 [0] (M := [_]) rfl, .mk h3 _ n _ _ hport (by rw [strOf_toList]; exact hq)⟩

theorem top_off_cinit : True := by
  w_top off
  exact True.intro
-- part cinit
/-- what a new lexer holds -/
inductive InitP (lx : Addr) (w : World) (x dx : Addr) (fp : Value) : Value → List (Addr × Obj) → Prop
  | mk (pb : Addr) (t1 t2 t3 t4 t5 t6 : Tok) (h : x < pb) : InitP lx w x dx fp .none [(pb, W.listOf #[] 0), (x, instObj lx dx), (dx, lexD w 1 fp pb t1 t2 t3 t4 t5 t6)]
theorem InitP.none {lx : Addr} {w : World} {x dx : Addr} {fp v : Value} {own' : List (Addr × Obj)} (h : InitP lx w x dx fp v own') : v = .none := by cases h; rfl
set_option maxRecDepth 100000 in
set_option maxHeartbeats 8000000 in
theorem init_k (w : World) {p : Program} {loose : List Str} {mean : ExcName → Option Value} {mg mb : Str → Option Value} (x dx : Addr) (hdx : dx < x) (fp : Value) :
    Ctr PySem.Challenge.rw_pm0015_02.row.prog w (Mine.hd.heap_39 w.params) p loose mean mg mb 2 20 28 [.ref x, fp] [(x, instObj 52 dx), (dx, dictOf [] 0)]
      (InitP 52 w x dx fp) noErr noErrN := by
  k_fill
  (k_dflt (refine' ctr_enter ?k6 ?k7 ?k9 ?kB ?_ ?c2 ?c3 ?c4 ?c5; (case k6 => k_is); (case k7 => k_is); (case k9 => exact fun _ => BindsTo.of_eq rfl); (case c5 => decide); (case kB => exact locs rfl); (case c2 => exact rfl); (case c3 => exact rfl); (case c4 => exact rfl); k_whole))
  intro dp un gd fr base g L h₁ s hd hu hg B F N X T hlt D
  (try dsimp only)
  k_fold
  have hdx := ltN hdx
  k_steps
  (with_reducible rename Fr _ _ _ _ => F9)
  (with_reducible rename News _ _ _ _ => N9)
  rename _ ∧ _ => hl9
  exact ⟨L, _, _, rfl, F9, N9, .mk _ _ _ _ _ _ _ hl9.1⟩

theorem top_off_cread : True := by
  w_top off
  exact True.intro
-- part cread
/-- what _read_char gives -/
inductive RdPost (lx : Addr) (w : World) (z : Lx) (ln : Int) (t : Tok) (opb : Obj) : List (Nat × Tok) → Nat → Value → List (Addr × Obj) → Prop
  | nil (n : Nat) (u : Tok) : RdPost lx w z ln t opb [] n (.str ⟨#[]⟩ u) (z.own lx (z.od w ln t) opb [] n)
  | cons (c : Nat × Tok) (r : List (Nat × Tok)) (n : Nat) (t' : Tok) : RdPost lx w z ln t opb (c :: r) n (.str ⟨#[c.1]⟩ c.2) (z.own lx (z.od w (if c.1 = 10 then ln + 1 else ln) t') opb r (n + 1))
theorem RdPost.line {lx : Addr} {w : World} {z : Lx} {ln : Int} {t : Tok} {opb : Obj} {c : Nat × Tok} (h : c.1 = 10) (r : List (Nat × Tok)) (n : Nat) (t' : Tok) : RdPost lx w z ln t opb (c :: r) n (.str ⟨#[c.1]⟩ c.2) (z.own lx (z.od w (ln + 1) t') opb r (n + 1)) := by
  have := RdPost.cons (lx := lx) (w := w) (z := z) (ln := ln) (t := t) (opb := opb) c r n t'
  rwa [if_pos h] at this
theorem RdPost.sign {lx : Addr} {w : World} {z : Lx} {ln : Int} {t : Tok} {opb : Obj} {c : Nat × Tok} (h : c.1 ≠ 10) (r : List (Nat × Tok)) (n : Nat) (t' : Tok) : RdPost lx w z ln t opb (c :: r) n (.str ⟨#[c.1]⟩ c.2) (z.own lx (z.od w ln t') opb r (n + 1)) := by
  have := RdPost.cons (lx := lx) (w := w) (z := z) (ln := ln) (t := t) (opb := opb) c r n t'
  rwa [if_neg h] at this
theorem rd_pack {z : Lx} {w : World} {g h : Heap} {L lx : Addr} {opb o : Obj} {r : List (Nat × Tok)} {n : Nat} {ln : Int} {t : Tok} (e : z.ody = o)
    (N : News g L h [(z.F, lamO z.q), (z.q.c, z.oc), (z.cl, z.ocl), (z.S, lstS r n), (z.dx, z.od w ln t), (z.pb, opb), (z.x, instObj lx z.dx), (z.y, instObj lx z.dy), (z.dy, o)]) : News g L h (z.own lx (z.od w ln t) opb r n) := by
  subst e
  exact news_pick N [4, 5, 3, 6, 0, 1, 7, 8, 2] rfl
set_option maxRecDepth 100000 in
set_option maxHeartbeats 8000000 in
theorem readchar_k (w : World) {p : Program} {loose : List Str} {mean : ExcName → Option Value} {mg mb : Str → Option Value} (z : Lx) (hz : z.Ok PySem.Challenge.rw_pm0015_02.row.prog w (Mine.hd.heap_39 w.params) p loose mean mg mb) (ln : Int) (t : Tok) (opb : Obj)
    (l : List (Nat × Tok)) (n : Nat) (hl : l.length ≤ 5000) :
    Ctr PySem.Challenge.rw_pm0015_02.row.prog w (Mine.hd.heap_39 w.params) p loose mean mg mb 4 40 35 [.ref z.x] (z.own 52 (z.od w ln t) opb l n)
      (RdPost 52 w z ln t opb l n) noErr noErrN := by
  obtain ⟨v1, v2, v3, v4, k1, k2, k3, k4, k5, e⟩ := hz.strD
  have hrd := fun (a : Nat) h => Ord.rd hz.nd (a := a) h
  have hnd := hz.nd
  unfold Ord at hnd
  simp only [Lx.own, Lx.fix, Lx.od, lexD, ent]
  rw [e]
  simp only [strmD, ent]
  k_fill
  (k_dflt (refine' ctr_enter ?k6 ?k7 ?k9 ?kB ?_ ?c2 ?c3 ?c4 ?c5; (case k6 => k_is); (case k7 => k_is); (case k9 => exact fun _ => BindsTo.of_eq rfl); (case c5 => decide); (case kB => exact locs rfl); (case c2 => exact rfl); (case c3 => exact rfl); (case c4 => exact rfl); k_whole))
  intro dp un gd fr base g L h₁ s hd hu hg B F N X T hlt D
  clear hg hlt
  (try dsimp only)
  (((try dsimp only); (with_reducible show wpAny _ _ _ _ _ _); k_fold))
  k_steps
  have hfa : FnAt z.F h₁ := ⟨_, _, _, _, (N (z.F, lamO z.q) (by k_mem)).1⟩
  dsimp only
  refine callWith_F hfa ?_
  (((try dsimp only); (with_reducible show wpAny _ _ _ _ _ _); k_fold))
  k_steps
  unfold Hold
  dsimp only [List.nil_append]
  refine ctr_use (own := [(z.F, lamO z.q), (z.q.c, z.oc), (z.cl, z.ocl), (z.S, lstS l n)]) (rest := [(z.dx, lexD w ln (.ref z.y) z.pb z.k1 t z.k3 z.k4 z.k5 z.k6), (z.pb, opb), (z.x, instObj 52 z.dx), (z.y, instObj 52 z.dy), (z.dy, strmD w z.F v1 v2 v3 v4 k1 k2 k3 k4 k5)]) (hz.read l n _ hl) B F X T D (news_pick N [4, 5, 8, 2, 0, 1, 3, 6, 7] rfl) rfl rfl (lt_up 3 hd rfl) (lt_up 23 hu rfl) ?_ ?_
  · exact List.forall_mem_cons.mpr ⟨hrd z.dx (.inl hnd.2.2.2.2.2.1), List.forall_mem_cons.mpr ⟨hrd z.pb (.inl (Nat.lt_trans hnd.2.2.2.2.2.1 (Nat.lt_trans hnd.2.2.2.2.2.2.1 hnd.2.2.2.2.2.2.2.1))), List.forall_mem_cons.mpr ⟨hrd z.x (.inl (Nat.lt_trans hnd.2.2.2.2.2.1 hnd.2.2.2.2.2.2.1)), List.forall_mem_cons.mpr ⟨hrd z.y (.inr (.inl rfl)), List.forall_mem_cons.mpr ⟨hrd z.dy (.inr (.inr rfl)), List.forall_mem_nil _⟩⟩⟩⟩⟩
  · intro v own' h' tk' hp F1 N1 _
    clear F N hfa hrd
    cases hp with
    | nil n u =>
      simp only [List.cons_append, List.nil_append, lexD, strmD, ent] at N1
      (((try dsimp only); (with_reducible show wpAny _ _ _ _ _ _); k_fold))
      k_steps
      (with_reducible rename Fr _ _ _ _ => F9)
      (with_reducible rename News _ _ _ _ => N9)
      unfold Hold
      (try dsimp only)
      show Lv s g _ _ _
      exact ⟨L, _, _, rfl, F9, rd_pack e N9, .nil n u⟩
    | cons c r n =>
      simp only [List.cons_append, List.nil_append, lexD, strmD, ent] at N1
      (((try dsimp only); (with_reducible show wpAny _ _ _ _ _ _); k_fold))
      k_steps
      all_goals (rename ((_ : Str) == _) = _ => hq)
      all_goals ((with_reducible rename Fr _ _ _ _ => F9); (with_reducible rename News _ _ _ _ => N9))
      all_goals (unfold Hold; (try dsimp only); (show Lv s g _ _ _))
      · exact ⟨L, _, _, rfl, F9, rd_pack e N9, .line (of_decide_eq_true (one_beq (d := 10) (by decide) hq)) r n _⟩
      · exact ⟨L, _, _, rfl, F9, rd_pack e N9, .sign (of_decide_eq_false (one_beq (d := 10) (by decide) hq)) r n _⟩

theorem top_off_ctoken : True := by
  w_top off
  exact True.intro
-- part ctoken
section
/-- what is left of the signs is their end -/
inductive TokPost (lx : Addr) (w : World) (z : Lx) (ln : Int) (opb : Obj) (l : List (Nat × Tok)) : Value → List (Addr × Obj) → Prop
  | mk (l' : List (Nat × Tok)) (n' : Nat) (t' u : Tok) (pre : List (Nat × Tok)) (h1 : l = pre ++ l') (h2 : l'.map (·.1) = (token (l.map (·.1))).2) :
    TokPost lx w z ln opb l (.str (strOf (token (l.map (·.1))).1) u) (z.own lx (z.od w (ln + nls (pre.map (·.1))) t') opb l' n')
theorem TokPost.of {lx : Addr} {w : World} {z : Lx} {ln : Int} {opb : Obj} {l pre l' : List (Nat × Tok)} {n' : Nat} {t' u : Tok} {dn : Str} (h1 : l = pre ++ l') (e : token (l.map (·.1)) = (dn.cps.toList, l'.map (·.1))) :
    TokPost lx w z ln opb l (.str dn u) (z.own lx (z.od w (ln + nls (pre.map (·.1))) t') opb l' n') := by
  have h := TokPost.mk (lx := lx) (w := w) (z := z) (ln := ln) (opb := opb) l' n' t' u pre h1 (by rw [e])
  rw [e] at h
  rwa [show strOf ((dn.cps.toList, l'.map (·.1)) : List Nat × List Nat).1 = dn from strOf_toList dn] at h
inductive tokInv (lx : Addr) (w : World) (z : Lx) (ln : Int) (opb : Obj) (l : List (Nat × Tok)) (rc I m : Addr) (t0 : Tok) (mm : Str → Option Value) : Nat → List (Addr × Obj) → Prop
  | go (a1 : mm (Str.ofString "self") = some (.ref z.x)) (a2 : mm (Str.ofString "fiter") = some (.ref I)) (l' : List (Nat × Tok)) (n' : Nat) (t' u : Tok) (pre : List (Nat × Tok)) (h1 : l = pre ++ l') (h2 : token (l.map (·.1)) = token (l'.map (·.1)))
    (h3 : mm (Str.ofString "token") = some (.str (Str.ofString "") u)) : tokInv lx w z ln opb l rc I m t0 mm (l'.length + 1) (z.own lx (z.od w (ln + nls (pre.map (·.1))) t') opb l' n' ++ [(I, callO m t0), (m, methodObj (.ref rc) (.ref z.x))])
  | fin (a1 : mm (Str.ofString "self") = some (.ref z.x)) (a2 : mm (Str.ofString "fiter") = some (.ref I)) (n' : Nat) (t' u : Tok) (dn : Str) (h1 : mm (Str.ofString "token") = some (.str dn u)) (h2 : token (l.map (·.1)) = (dn.cps.toList, [])) :
    tokInv lx w z ln opb l rc I m t0 mm 0 (z.own lx (z.od w (ln + nls (l.map (·.1))) t') opb [] n' ++ [(I, endO), (m, methodObj (.ref rc) (.ref z.x))])
theorem nls_c (ln : Int) (pre : List (Nat × Tok)) (c : Nat × Tok) : (if c.1 = 10 then ln + nls (pre.map (·.1)) + 1 else ln + nls (pre.map (·.1))) = ln + nls ((pre ++ [c]).map (·.1)) := by
  rw [List.map_append, List.map_singleton, nls_snoc]
  split
  · rw [Int.add_assoc]
  · rfl
/-- what a sign taken off says of the rest -/
structure Took (all pre l : List (Nat × Tok)) (c : Nat × Tok) (r : List (Nat × Tok)) : Prop where
  hall : all = (pre ++ [c]) ++ r
  hm : l.map (·.1) = c.1 :: r.map (·.1)
  hk : r.length < l.length
  hl : r.length ≤ 5000
/-- the turn's next of get_token: one more sign, or their end -/
theorem tok_next (w : World) {p : Program} {loose : List Str} {mean : ExcName → Option Value} {mg mb : Str → Option Value} (z : Lx) (hz : z.Ok PySem.Challenge.rw_pm0015_02.row.prog w (Mine.hd.heap_39 w.params) p loose mean mg mb) {ln : Int} {tt : Tok} {opb : Obj}
    {all pre l : List (Nat × Tok)} {n : Nat} (hall : all = pre ++ l) (hl : all.length ≤ 5000) {A₀ : Around} {base g : Heap} {outer : List Env} {env : Env} {L : Addr} {mm : Str → Option Value} {s : Shared} {dp un : Nat} {gd : Option (List Code)} {I m : Addr} {t : Tok} {oc : Value} {odd : Option Addr} {fd : FuncData} {osl : Array (Option Value)} (hrc : (Mine.hd.heap_39 w.params).lookup 35 = some ⟨oc, odd, .func fd, osl⟩)
    {Q : Option Value → Shared → Prop} {E : Value → Shared → Prop}
    (B : Below A₀ base outer g) (F : Fr g L s.heap mm) (X : (Mine.hd.heap_39 w.params).In g) (T : Top p loose mean mg mb g) (D : KtsDicts (fsOf outer) g) (N : News g L s.heap (z.own 52 (z.od w (ln + nls (pre.map (·.1))) tt) opb l n ++ [(I, callO m t), (m, methodObj (.ref 35) (.ref z.x))]))
    (hf : env.frame = some L) (hke : env.scope.kind = .function) (hd : dp + 4 < recursionLimit) (hu : un + 1 + 40 < cLine) (hpm : @LT.lt Nat _ z.pb m) (hIm : @LT.lt Nat _ m I)
    (item : ∀ c r t' h' tk', Took all pre l c r → Fr g L h' mm → News g L h' (z.own 52 (z.od w (ln + nls ((pre ++ [c]).map (·.1))) t') opb r (n + 1) ++ [(I, callO m t), (m, methodObj (.ref 35) (.ref z.x))]) → Q (some (.str ⟨#[c.1]⟩ c.2)) { s with heap := h', toks := tk' })
    (done : ∀ h' tk', all = pre → l.map (·.1) = [] → Fr g L h' mm → News g L h' (z.own 52 (z.od w (ln + nls (all.map (·.1))) tt) opb [] n ++ [(I, endO), (m, methodObj (.ref 35) (.ref z.x))]) → Q none { s with heap := h', toks := tk' }) :
    wpAny (model PySem.Challenge.rw_pm0015_02.row.prog w) (mA dp un gd (env :: outer)) (pyNext (.ref I)) Q E s := by
  have hll : l.length ≤ 5000 := Nat.le_trans (by rw [hall, List.length_append]; exact Nat.le_add_left ..) hl
  refine' next_read (readchar_k w z hz _ tt opb l n hll) ?b1 B F X T D N hf hke hrc hd hu ?hap (fun q hq => List.mem_singleton.mp hq ▸ Nat.ne_of_lt hIm) ?b6 ?b7
  (case hap =>
    intro q hq
    rcases List.mem_cons.mp hq with h | hq
    · rw [h]; exact Lx.part hz.nd (.inl (Nat.lt_trans hpm hIm))
    · rw [List.mem_singleton.mp hq]; exact Lx.part hz.nd (.inl hpm))
  (case b1 =>
    intro v own' hp
    cases hp with
    | nil n u => exact ⟨_, _, rfl⟩
    | cons c r n t' => exact ⟨_, _, rfl⟩)
  (case b7 =>
    intro v own' h' tk' hp F N
    generalize hx : Value.str ⟨#[]⟩ v = x at hp
    cases hp with
    | cons c r n t' => injection hx with hx; injection hx with hx; simp at hx
    | nil n u =>
      rw [List.append_nil] at hall
      subst hall
      exact done h' tk' rfl rfl F N)
  (case b6 =>
    intro yy v own' h' tk' hp hne F N
    generalize hx : Value.str yy v = x at hp
    cases hp with
    | nil n u => injection hx with hx; exact absurd hx hne
    | cons c r n t' =>
      injection hx with e1 e2
      subst e1 e2
      rw [nls_c] at N
      exact item c r t' h' tk' ⟨by rw [hall, List.append_assoc]; rfl, rfl, Nat.lt_succ_self _, Nat.le_of_succ_le hll⟩ F N)
/-- a call of _read_char: what it takes off -/
structure Read (all pre l e r : List (Nat × Tok)) : Prop where
  hall : all = (pre ++ e) ++ r
  hm : l.map (·.1) = (e ++ r).map (·.1)
  he : e.length = 1 ∨ (e = [] ∧ r = [])
  hk : r.length ≤ l.length
  hx : (strOf (e.map (·.1))).length ≤ 1
theorem tok_read (w : World) {p : Program} {loose : List Str} {mean : ExcName → Option Value} {mg mb : Str → Option Value} (z : Lx) (hz : z.Ok PySem.Challenge.rw_pm0015_02.row.prog w (Mine.hd.heap_39 w.params) p loose mean mg mb) {ln : Int} {tt : Tok} {opb : Obj}
    {all pre l : List (Nat × Tok)} {n : Nat} (hall : all = pre ++ l) (hl : l.length ≤ 5000) {A₀ : Around} {base g : Heap} {outer : List Env} {env : Env} {L : Addr} {mm : Str → Option Value} {s : Shared} {dp un : Nat} {gd : Option (List Code)} {I m : Addr} {oI om : Obj}
    {Q E : Value → Shared → Prop}
    (B : Below A₀ base outer g) (F : Fr g L s.heap mm) (X : (Mine.hd.heap_39 w.params).In g) (T : Top p loose mean mg mb g) (D : KtsDicts (fsOf outer) g) (N : News g L s.heap (z.own 52 (z.od w (ln + nls (pre.map (·.1))) tt) opb l n ++ [(I, oI), (m, om)]))
    (hf : env.frame = some L) (hke : env.scope.kind = .function) (hd : dp + 4 < recursionLimit) (hu : un + 40 < cLine) (hpm : @LT.lt Nat _ z.pb m) (hIm : @LT.lt Nat _ m I)
    (h : ∀ (e r : List (Nat × Tok)) v n' t' h' tk', Read all pre l e r → Fr g L h' mm → News g L h' (z.own 52 (z.od w (ln + nls ((pre ++ e).map (·.1))) t') opb r n' ++ [(I, oI), (m, om)]) → Q (.str (strOf (e.map (·.1))) v) { s with heap := h', toks := tk' }) :
    wpAny (model PySem.Challenge.rw_pm0015_02.row.prog w) (mA dp un gd (env :: outer)) (call (.ref 35) [.ref z.x]) Q E s := by
  refine ctr_use (readchar_k w z hz _ tt opb l n hl) B F X T D N hf hke hd hu ?hap ?_
  (case hap =>
    intro q hq
    rcases List.mem_cons.mp hq with h | hq
    · rw [h]; exact Lx.part hz.nd (.inl (Nat.lt_trans hpm hIm))
    · rw [List.mem_singleton.mp hq]; exact Lx.part hz.nd (.inl hpm))
  intro v own' h' tk' hp F N _
  cases hp with
  | nil n u => exact h [] [] u n tt h' tk' ⟨by rw [hall, List.append_nil (pre ++ [])], rfl, .inr ⟨rfl, rfl⟩, Nat.le_refl _, Nat.zero_le _⟩ F (by rw [List.append_nil]; exact N)
  | cons c r n t' =>
    rw [nls_c] at N
    exact h [c] r c.2 (n + 1) t' h' tk' ⟨by rw [hall, List.append_assoc]; rfl, rfl, .inl rfl, Nat.le_succ _, Nat.le_refl _⟩ F N
inductive innInv (f : List Nat → List Nat → List Nat × List Nat) (lx : Addr) (w : World) (z : Lx) (ln : Int) (opb : Obj) (l : List (Nat × Tok)) (rc I m : Addr) (t0 : Tok) (mm : Str → Option Value) : Nat → List (Addr × Obj) → Prop
  | mk (a1 : mm (Str.ofString "self") = some (.ref z.x)) (a2 : mm (Str.ofString "fiter") = some (.ref I)) (l' : List (Nat × Tok)) (n' : Nat) (t' u : Tok) (pre : List (Nat × Tok)) (dn : Str) (h1 : l = pre ++ l') (h2 : token (l.map (·.1)) = f dn.cps.toList (l'.map (·.1)))
    (h3 : mm (Str.ofString "token") = some (.str dn u)) (h4 : dn.length ≤ pre.length) : innInv f lx w z ln opb l rc I m t0 mm l'.length (z.own lx (z.od w (ln + nls (pre.map (·.1))) t') opb l' n' ++ [(I, callO m t0), (m, methodObj (.ref rc) (.ref z.x))])
/-- the sign that a bare word begins with -/
inductive TokMid (lx : Addr) (w : World) (z : Lx) (ln : Int) (opb : Obj) (l : List (Nat × Tok)) (rc I m : Addr) (t0 : Tok) (g : Heap) (L : Addr) (s : Shared) : Flow → Shared → Prop
  | mk (h : Heap) (tk : Nat) (mm : Str → Option Value) (a1 : mm (Str.ofString "self") = some (.ref z.x)) (a2 : mm (Str.ofString "fiter") = some (.ref I)) (l' : List (Nat × Tok)) (n' : Nat) (t' u v : Tok) (pre : List (Nat × Tok)) (x : Str) (h1 : l = pre ++ l')
    (h2 : token (l.map (·.1)) = bare (Str.ofString "" ++ x : Str).cps.toList (l'.map (·.1))) (h3 : mm (Str.ofString "token") = some (.str (Str.ofString "") u)) (h5 : mm (Str.ofString "ch") = some (.str x v)) (h4 : (Str.ofString "" ++ x : Str).length ≤ pre.length) (h6 : x.length ≤ 1) (F : Fr g L h mm)
    (N : News g L h (z.own lx (z.od w (ln + nls (pre.map (·.1))) t') opb l' n' ++ [(I, callO m t0), (m, methodObj (.ref rc) (.ref z.x))])) (hk : l'.length ≤ l.length) : TokMid lx w z ln opb l rc I m t0 g L s .next { s with heap := h, toks := tk }
theorem app_len {α : Type} {x y : Str} {a b : List α} (h1 : x.length ≤ a.length) (h2 : y.length ≤ b.length) : (x ++ y : Str).length ≤ (a ++ b).length := by rw [Str.length_append, List.length_append]; exact Nat.add_le_add h1 h2
theorem esc_len (e : List (Nat × Tok)) : (strOf (e.map (·.1))).length ≤ e.length := by rw [strOf_len, List.length_map]; exact Nat.le_refl _
theorem snoc_len {α : Type} {x : Str} {a : List α} {c : α} (h : x.length ≤ a.length) : x.length ≤ (a ++ [c]).length := by rw [List.length_append]; exact Nat.le_succ_of_le h
theorem pre_len {all pre l : List (Nat × Tok)} {dn : Str} (h : all = pre ++ l) (hl : all.length ≤ 5000) (hd : dn.length ≤ pre.length) : dn.length ≤ 5000 := Nat.le_trans hd (Nat.le_trans (by rw [h, List.length_append]; exact Nat.le_add_right ..) hl)
local macro_rules | `(tactic| walk_at "loadName") => `(tactic| (k_here; k_dflt (refine' ldn ?k1 ?k2 ?_; (case k1 => k_asm); (case k2 => (first | exact (Eq.refl (some _)) | with_reducible assumption | assumption)); k_whole)))
local macro_rules | `(tactic| walk_at "exec If") => `(tactic| ((with_reducible show wpAny _ _ (exec (Stmt.If (Expr.Compare _ _ [Expr.Constant (Const.str (Str.ofString "\\")) _ _] _) _ [] _) _) _ _ _); refine Hold.mk ?_))
set_option maxRecDepth 100000 in
set_option maxHeartbeats 8000000 in
theorem token_k (w : World) {p : Program} {loose : List Str} {mean : ExcName → Option Value} {mg mb : Str → Option Value} (z : Lx) (hz : z.Ok PySem.Challenge.rw_pm0015_02.row.prog w (Mine.hd.heap_39 w.params) p loose mean mg mb) (ln : Int) (tt : Tok) (npb : Nat)
    (l : List (Nat × Tok)) (n : Nat) (hl : l.length ≤ 5000) :
    Ctr PySem.Challenge.rw_pm0015_02.row.prog w (Mine.hd.heap_39 w.params) p loose mean mg mb 8 100 42 [.ref z.x] (z.own 52 (z.od w ln tt) (W.listOf #[] npb) l n)
      (TokPost 52 w z ln (W.listOf #[] npb) l) noErr noErrN := by
  k_fill
  (k_dflt (refine' ctr_enter ?k6 ?k7 ?k9 ?kB ?_ ?c2 ?c3 ?c4 ?c5; (case k6 => k_is); (case k7 => k_is); (case k9 => exact fun _ => BindsTo.of_eq rfl); (case c5 => decide); (case kB => exact locs rfl); (case c2 => exact rfl); (case c3 => exact rfl); (case c4 => exact rfl); k_whole))
  intro dp un gd fr base g L h₁ s hd hu hg B F N X T hlt D
  clear hg hlt
  (try dsimp only)
  (((try dsimp only); (with_reducible show wpAny _ _ _ _ _ _); k_fold))
  k_steps
  (try unfold Hold)
  (with_reducible rename Fr _ _ _ _ => F)
  (with_reducible rename News _ _ _ _ => N)
  rename Addr => m
  rename ∀ p : Addr × Obj, _ => lm
  have hpm : @LT.lt Nat _ z.pb m := lm (z.pb, W.listOf #[] npb) Lx.mem_pb
  clear lm
  refine iter_callN F N (List.mem_cons_self ..) ?_
  intro I h3 t0 F3 N3 l3
  have hmI : @LT.lt Nat _ m I := l3 _ (List.mem_cons_self ..)
  replace N3 := news_swap (a := [(I, callO m t0), (m, methodObj (.ref 35) (.ref z.x))]) N3
  clear F N l3
  (((try dsimp only); (with_reducible show wpAny _ _ _ _ _ _); k_fold))
  k_steps
  unfold Hold
  (with_reducible rename Fr _ _ _ _ => F)
  (with_reducible rename News _ _ _ _ => N)
  refine for_inv (h₀ := g) ?_
  k_steps
  unfold Hold
  refine iter_self (N (I, callO m t0) (List.mem_append_right _ (List.mem_cons_self ..))).1 ?_
  refine ⟨fun k mm news => tokInv 52 w z ln (W.listOf #[] npb) l 35 I m t0 mm k news, l.length + 1, _, _, .go (by rfl) (by rfl) l n tt _ [] rfl rfl (by rfl), F, by rw [show ln + nls (List.map (fun x => x.1) ([] : List (Nat × Tok))) = ln by simp [nls]]; exact N, fun _ => rfl, ?_⟩
  clear F N
  rintro k m₁ news₁ h tk1 (⟨hself, hfi, l', n', t', u, pre, hpre, htok, htk⟩ | ⟨hself, hfi, n', t', u, dn, htk, htok⟩) F N
  · refine tok_next (env := envOf _ _ L _ _) w z hz hpre hl (by k_is) B F X T D N rfl rfl (lt_up 5 hd rfl) (lt_up 44 hu rfl) hpm hmI ?_ ?_
    · intro c r t₁ h₁ tk₁ ht F N
      dsimp only
      refine wpAny_assign_Name ?_
      k_fold
      k_steps
      · (try unfold Hold)
        (with_reducible rename Fr _ _ _ _ => F8)
        (with_reducible rename News _ _ _ _ => N8)
        rename ((_ : Str) == Str.ofString "\"") = true => hqt
        have hq := of_decide_eq_true (one_beq (d := 34) (by decide) hqt)
        have htok0 : token (l.map (·.1)) = quoted (Str.ofString "").cps.toList (r.map (·.1)) := by rw [htok, ht.hm, hq]; exact token_quote
        (try unfold Hold)
        refine for_inv (h₀ := g) ?_
        k_steps
        unfold Hold
        refine iter_self (N8 (I, callO m t0) (List.mem_append_right _ (List.mem_cons_self ..))).1 ?_
        refine ⟨fun k mm news => innInv quoted 52 w z ln (W.listOf #[] npb) l 35 I m t0 mm k news, _, _, _, .mk (by exact hself) (by exact hfi) r _ _ _ (pre ++ [c]) _ ht.hall htok0 (by exact htk) (Nat.zero_le _), F8, N8, fun _ => rfl, ?_⟩
        clear F8 N8
        rintro k₂ m₂ news₂ h₂ tk₂ ⟨hself₂, hfi₂, l₂, n₂, t₂, u₂, pre₂, dn, hpre₂, htok₂, htk₂, hlen₂⟩ F N
        have hdl := pre_len hpre₂ hl hlen₂
        refine tok_next (env := envOf _ _ L _ _) w z hz hpre₂ hl (by k_is) B F X T D N rfl rfl (lt_up 5 hd rfl) (lt_up 44 hu rfl) hpm hmI ?_ ?_
        · intro c₂ r₂ t₃ h₃ tk₃ ht₂ F N
          dsimp only
          refine wpAny_assign_Name ?_
          k_fold
          k_steps
          · (try unfold Hold)
            (with_reducible rename Fr _ _ _ _ => F9)
            (with_reducible rename News _ _ _ _ => N9)
            rename ((_ : Str) == Str.ofString "\"") = _ => hst
            (try dsimp only)
            show Lv s g _ _ _
            exact ⟨_, _, _, rfl, F9, news_fst N9, .of ht₂.hall (by rw [htok₂, ht₂.hm]; exact quoted_end' (of_decide_eq_true (one_beq (d := 34) (by decide) hst)))⟩
          · unfold Hold
            rename ((_ : Str) == Str.ofString "\"") = _ => hst
            have hst' := of_decide_eq_false (one_beq (d := 34) (by decide) hst)
            refine wpAny_If (wpAny_isTrue_Compare1 ?_)
            k_fold
            k_steps
            · (try unfold Hold)
              (with_reducible rename Fr _ _ _ _ => F9)
              (with_reducible rename News _ _ _ _ => N9)
              rename ((_ : Str) == Str.ofString "\\") = true => hbs
              have hb := of_decide_eq_true (one_beq (d := 92) (by decide) hbs)
              refine tok_read (env := envOf _ _ L _ _) w z hz ht₂.hall ht₂.hl B F9 X T D N9 rfl rfl (lt_up 5 hd rfl) (lt_up 43 hu rfl) hpm hmI ?_
              intro e r₃ v n₃ t₃ h₄ tk₄ hr F N
              clear F9 N9
              have hxl := hr.hx
              (((try dsimp only); (with_reducible show wpAny _ _ _ _ _ _); k_fold))
              k_steps
              (try unfold Hold)
              dsimp only [TurnEnd]
              (with_reducible rename Fr _ _ _ _ => F9)
              (with_reducible rename News _ _ _ _ => N9)
              exact ⟨r₃.length, _, _, _, _, Nat.lt_of_le_of_lt hr.hk ht₂.hk, rfl, F9, N9, .mk (by exact hself₂) (by exact hfi₂) r₃ n₃ _ _ ((pre₂ ++ [c₂]) ++ e) _ hr.hall (by rw [htok₂, ht₂.hm, hr.hm, hb]; exact quoted_esc hr.he) (by rfl) (app_len (snoc_len hlen₂) (esc_len e))⟩
            · (try unfold Hold)
              (with_reducible rename Fr _ _ _ _ => F9)
              (with_reducible rename News _ _ _ _ => N9)
              rename ((_ : Str) == Str.ofString "\\") = false => hbs
              have hb := of_decide_eq_false (one_beq (d := 92) (by decide) hbs)
              dsimp only [TurnEnd]
              exact ⟨r₂.length, _, _, _, _, ht₂.hk, rfl, F9, N9, .mk (by exact hself₂) (by exact hfi₂) r₂ _ _ _ (pre₂ ++ [c₂]) (dn ++ ⟨#[c₂.1]⟩) ht₂.hall (by rw [htok₂, ht₂.hm]; exact quoted_sign hst' hb) (by rfl) (app_len (y := ⟨#[c₂.1]⟩) (b := [c₂]) hlen₂ (Nat.le_refl 1))⟩
        · intro h₃ tk₃ ea em F N
          dsimp only
          k_steps
          (try unfold Hold)
          dsimp only [TurnEnd]
          exact ⟨0, _, _, _, _, Nat.lt_of_le_of_lt (Nat.zero_le _) (Nat.lt_succ_self _), rfl, F, N, .fin (by exact hself₂) (by exact hfi₂) n₂ t₂ u₂ dn (by exact htk₂) (by rw [htok₂, em]; exact quoted_nil)⟩
      · unfold Hold
        (with_reducible rename Fr _ _ _ _ => F7)
        (with_reducible rename News _ _ _ _ => N7)
        rename (List.isEmpty _) = _ => hws
        rename ((_ : Str) == Str.ofString "\"") = false => hqt
        refine wpAny_mono (Q := fun fl s' => TokMid 52 w z ln (W.listOf #[] npb) l 35 I m t0 g L s fl s') ?mA (fun fl s' hm => ?mB) (fun _ _ e => e)
        (case mA =>
          refine wpAny_If (wpAny_isTrue_Compare1 ?_)
          k_fold
          k_steps
          · (try unfold Hold)
            (with_reducible rename Fr _ _ _ _ => F9)
            (with_reducible rename News _ _ _ _ => N9)
            rename ((_ : Str) == Str.ofString "\\") = true => hbs
            have hb := of_decide_eq_true (one_beq (d := 92) (by decide) hbs)
            refine tok_read (env := envOf _ _ L _ _) w z hz ht.hall ht.hl B F9 X T D N9 rfl rfl (lt_up 5 hd rfl) (lt_up 43 hu rfl) hpm hmI ?_
            intro e r₃ v n₃ t₃ h₄ tk₄ hr F N
            clear F9 N9
            (((try dsimp only); (with_reducible show wpAny _ _ _ _ _ _); k_fold))
            k_steps
            (try unfold Hold)
            (with_reducible rename Fr _ _ _ _ => F9)
            (with_reducible rename News _ _ _ _ => N9)
            exact .mk _ _ _ (by exact hself) (by exact hfi) r₃ n₃ _ _ _ ((pre ++ [c]) ++ e) _ hr.hall (by rw [htok, ht.hm, hr.hm, hb]; exact token_esc hr.he) (by exact htk) (by rfl) (app_len (Nat.zero_le _) (esc_len e)) hr.hx F9 N9 (by rw [hr.hall, List.length_append]; exact Nat.le_add_left ..)
          · (try unfold Hold)
            (with_reducible rename Fr _ _ _ _ => F9)
            (with_reducible rename News _ _ _ _ => N9)
            rename ((_ : Str) == Str.ofString "\\") = false => hbs
            have hb := of_decide_eq_false (one_beq (d := 92) (by decide) hbs)
            have hq := of_decide_eq_false (one_beq (d := 34) (by decide) hqt)
            have hw : isWs c.1 = false := by simpa using ws_of hws
            exact .mk _ _ _ (by exact hself) (by exact hfi) r _ _ _ _ (pre ++ [c]) ⟨#[c.1]⟩ ht.hall (by rw [htok, ht.hm]; exact token_bare hw hq hb) (by exact htk) (by rfl) (app_len (Nat.zero_le _) (Nat.le_refl 1)) (Nat.le_refl 1) F9 N9 (by rw [ht.hall, List.length_append]; exact Nat.le_add_left ..))
        clear F7 N7 F N ht hws hqt
        obtain ⟨h₅, tk₅, m₅, hself₅, hfi₅, l₅, n₅, t₅, u₅, v₅, pre₅, x₅, hpre₅, htok₅, htk₅, hch₅, hln₅, hx₅, F8, N8, hk₅⟩ := hm
        (repeat k_unfold)
        dsimp only
        k_steps
        (try unfold Hold)
        (with_reducible rename Fr _ _ _ _ => F8)
        (with_reducible rename News _ _ _ _ => N8)
        (try unfold Hold)
        refine for_inv (h₀ := g) ?_
        k_steps
        unfold Hold
        refine iter_self (N8 (I, callO m t0) (List.mem_append_right _ (List.mem_cons_self ..))).1 ?_
        refine ⟨fun k mm news => innInv bare 52 w z ln (W.listOf #[] npb) l 35 I m t0 mm k news, _, _, _, .mk (by exact hself₅) (by exact hfi₅) l₅ n₅ t₅ _ pre₅ (Str.ofString "" ++ x₅) hpre₅ htok₅ (by rfl) hln₅, F8, N8, fun _ => rfl, ?_⟩
        clear F8 N8
        rintro k₂ m₂ news₂ h₂ tk₂ ⟨hself₂, hfi₂, l₂, n₂, t₂, u₂, pre₂, dn, hpre₂, htok₂, htk₂, hlen₂⟩ F N
        have hdl := pre_len hpre₂ hl hlen₂
        refine tok_next (env := envOf _ _ L _ _) w z hz hpre₂ hl (by k_is) B F X T D N rfl rfl (lt_up 5 hd rfl) (lt_up 44 hu rfl) hpm hmI ?_ ?_
        · intro c₂ r₂ t₃ h₃ tk₃ ht₂ F N
          dsimp only
          refine wpAny_assign_Name ?_
          k_fold
          k_steps
          · unfold Hold
            rename (List.isEmpty _) = _ => hst
            have hst' : isWs c₂.1 = false := by simpa using ws_of hst
            refine wpAny_If (wpAny_isTrue_Compare1 ?_)
            k_fold
            k_steps
            · (try unfold Hold)
              (with_reducible rename Fr _ _ _ _ => F9)
              (with_reducible rename News _ _ _ _ => N9)
              rename ((_ : Str) == Str.ofString "\\") = true => hbs
              have hb := of_decide_eq_true (one_beq (d := 92) (by decide) hbs)
              refine tok_read (env := envOf _ _ L _ _) w z hz ht₂.hall ht₂.hl B F9 X T D N9 rfl rfl (lt_up 5 hd rfl) (lt_up 43 hu rfl) hpm hmI ?_
              intro e r₃ v n₃ t₃ h₄ tk₄ hr F N
              clear F9 N9
              have hxl := hr.hx
              (((try dsimp only); (with_reducible show wpAny _ _ _ _ _ _); k_fold))
              k_steps
              (try unfold Hold)
              dsimp only [TurnEnd]
              (with_reducible rename Fr _ _ _ _ => F9)
              (with_reducible rename News _ _ _ _ => N9)
              exact ⟨r₃.length, _, _, _, _, Nat.lt_of_le_of_lt hr.hk ht₂.hk, rfl, F9, N9, .mk (by exact hself₂) (by exact hfi₂) r₃ n₃ _ _ ((pre₂ ++ [c₂]) ++ e) _ hr.hall (by rw [htok₂, ht₂.hm, hr.hm, hb]; exact bare_esc hr.he) (by rfl) (app_len (snoc_len hlen₂) (esc_len e))⟩
            · (try unfold Hold)
              (with_reducible rename Fr _ _ _ _ => F9)
              (with_reducible rename News _ _ _ _ => N9)
              rename ((_ : Str) == Str.ofString "\\") = false => hbs
              have hb := of_decide_eq_false (one_beq (d := 92) (by decide) hbs)
              dsimp only [TurnEnd]
              exact ⟨r₂.length, _, _, _, _, ht₂.hk, rfl, F9, N9, .mk (by exact hself₂) (by exact hfi₂) r₂ _ _ _ (pre₂ ++ [c₂]) (dn ++ ⟨#[c₂.1]⟩) ht₂.hall (by rw [htok₂, ht₂.hm]; exact bare_sign hst' hb) (by rfl) (app_len (y := ⟨#[c₂.1]⟩) (b := [c₂]) hlen₂ (Nat.le_refl 1))⟩
          · (try unfold Hold)
            (with_reducible rename Fr _ _ _ _ => F9)
            (with_reducible rename News _ _ _ _ => N9)
            rename (List.isEmpty _) = _ => hst
            (try dsimp only)
            show Lv s g _ _ _
            exact ⟨_, _, _, rfl, F9, news_fst N9, .of ht₂.hall (by rw [htok₂, ht₂.hm]; exact bare_ws (by simpa using ws_of hst))⟩
        · intro h₃ tk₃ ea em F N
          dsimp only
          k_steps
          (try unfold Hold)
          dsimp only [TurnEnd]
          exact ⟨0, _, _, _, _, Nat.lt_of_le_of_lt (Nat.zero_le _) (Nat.lt_succ_self _), rfl, F, N, .fin (by exact hself₂) (by exact hfi₂) n₂ t₂ u₂ dn (by exact htk₂) (by rw [htok₂, em]; exact bare_nil)⟩
      · (try unfold Hold)
        dsimp only [TurnEnd]
        (with_reducible rename Fr _ _ _ _ => F9)
        (with_reducible rename News _ _ _ _ => N9)
        rename _ = false => hws
        have hw := ws_of hws
        exact ⟨r.length + 1, _, _, _, _, Nat.succ_lt_succ ht.hk, rfl, F9, N9, .go (by exact hself) (by exact hfi) r _ _ u (pre ++ [c]) ht.hall (by rw [htok, ht.hm]; exact token_ws (by simpa using hw)) (by exact htk)⟩
    · intro h' tk' ea em F N
      dsimp only
      k_steps
      (try unfold Hold)
      show Lv s g _ _ _
      exact ⟨_, _, _, rfl, F, news_fst N, .of (dn := Str.ofString "") (List.append_nil l).symm (by rw [htok, em, token]; decide +kernel)⟩
  · refine next_ended rfl (N _ (List.mem_append_right _ (List.mem_cons_self ..))).1 ?_
    intro h' kp
    have F' : Fr g (envOf _ _ L _ _).locals h' m₁ := ⟨F.ns.keeps kp, fun b o e => kp _ _ (F.keep b o e), F.above⟩
    have N' : News g (envOf _ _ L _ _).locals h' _ := fun q hq => ⟨kp _ _ (N q (List.mem_append_left _ hq)).1, (N q (List.mem_append_left _ hq)).2⟩
    clear F N
    dsimp only
    k_steps
    (try unfold Hold)
    show Lv s g _ _ _
    exact ⟨_, _, _, rfl, F', N', .of (List.append_nil l).symm htok⟩

end
theorem top_off_cpush : True := by
  w_top off
  exact True.intro
-- part cpush
section
local macro_rules | `(tactic| walk_at $s:str) => if ["call builtin:list.append", "call builtin:list.pop"].contains s.getString then `(tactic| refine Hold.mk ?_) else Lean.Macro.throwUnsupported
/-- what push_token leaves -/
inductive PushP (lx : Addr) (z : Lx) (od : Obj) (vs : List Value) (npb : Nat) (x : Value) (l : List (Nat × Tok)) (n : Nat) : Value → List (Addr × Obj) → Prop
  | mk : PushP lx z od vs npb x l n .none (z.own lx od (W.listOf (vs ++ [x]).toArray (npb + 1)) l n)
/-- what get_token takes off the pushed ones -/
inductive PopP (lx : Addr) (z : Lx) (od : Obj) (vs : List Value) (npb : Nat) (x : Value) (l : List (Nat × Tok)) (n : Nat) : Value → List (Addr × Obj) → Prop
  | mk : PopP lx z od vs npb x l n x (z.own lx od (W.listOf vs.toArray (npb + 1)) l n)
set_option maxRecDepth 100000 in
set_option maxHeartbeats 8000000 in
theorem push_k (w : World) {p : Program} {loose : List Str} {mean : ExcName → Option Value} {mg mb : Str → Option Value} (z : Lx) (hz : z.Ok PySem.Challenge.rw_pm0015_02.row.prog w (Mine.hd.heap_39 w.params) p loose mean mg mb) (ln : Int) (t : Tok)
    (vs : List Value) (npb : Nat) (hv : vs.length ≤ 5000) (x : Value) (l : List (Nat × Tok)) (n : Nat) :
    Ctr PySem.Challenge.rw_pm0015_02.row.prog w (Mine.hd.heap_39 w.params) p loose mean mg mb 4 40 49 [.ref z.x, x] (z.own 52 (z.od w ln t) (W.listOf vs.toArray npb) l n)
      (PushP 52 z (z.od w ln t) vs npb x l n) noErr noErrN := by
  have hnd := hz.nd
  unfold Ord at hnd
  simp only [Lx.own, Lx.fix, Lx.od, lexD, ent]
  k_fill
  (k_dflt (refine' ctr_enter ?k6 ?k7 ?k9 ?kB ?_ ?c2 ?c3 ?c4 ?c5; (case k6 => k_is); (case k7 => k_is); (case k9 => exact fun _ => BindsTo.of_eq rfl); (case c5 => decide); (case kB => exact locs rfl); (case c2 => exact rfl); (case c3 => exact rfl); (case c4 => exact rfl); k_whole))
  intro dp un gd fr base g L h₁ s hd hu hg B F N X T hlt D
  clear hg hlt
  (try dsimp only)
  (((try dsimp only); (with_reducible show wpAny _ _ _ _ _ _); k_fold))
  k_steps
  unfold Hold
  (with_reducible rename Fr _ _ _ _ => F9)
  (with_reducible rename News _ _ _ _ => N9)
  refine append_K F9 N9 (by k_upd) ?_ (by rw [List.size_toArray]; exact Nat.le_trans hv (by rw [PySem.sizeLine_eq]; decide))
  intro h' F' N'
  (try dsimp only [List.nil_append, List.cons_append] at N')
  refine wpAny_execs_nil ?_
  (try dsimp only)
  (repeat k_unfold)
  rw [List.push_toArray] at N'
  exact ⟨L, _, _, rfl, F', N', .mk⟩
set_option maxRecDepth 100000 in
set_option maxHeartbeats 8000000 in
theorem pop_k (w : World) {p : Program} {loose : List Str} {mean : ExcName → Option Value} {mg mb : Str → Option Value} (z : Lx) (hz : z.Ok PySem.Challenge.rw_pm0015_02.row.prog w (Mine.hd.heap_39 w.params) p loose mean mg mb) (ln : Int) (t : Tok)
    (x : Value) (vs : List Value) (npb : Nat) (hv : vs.length ≤ 5000) (l : List (Nat × Tok)) (n : Nat) :
    Ctr PySem.Challenge.rw_pm0015_02.row.prog w (Mine.hd.heap_39 w.params) p loose mean mg mb 8 100 42 [.ref z.x] (z.own 52 (z.od w ln t) (W.listOf (x :: vs).toArray npb) l n)
      (PopP 52 z (z.od w ln t) vs npb x l n) noErr noErrN := by
  have hnd := hz.nd
  unfold Ord at hnd
  simp only [Lx.own, Lx.fix, Lx.od, lexD, ent]
  k_fill
  (k_dflt (refine' ctr_enter ?k6 ?k7 ?k9 ?kB ?_ ?c2 ?c3 ?c4 ?c5; (case k6 => k_is); (case k7 => k_is); (case k9 => exact fun _ => BindsTo.of_eq rfl); (case c5 => decide); (case kB => exact locs rfl); (case c2 => exact rfl); (case c3 => exact rfl); (case c4 => exact rfl); k_whole))
  intro dp un gd fr base g L h₁ s hd hu hg B F N X T hlt D
  clear hg hlt
  (try dsimp only)
  (((try dsimp only); (with_reducible show wpAny _ _ _ _ _ _); k_fold))
  k_steps
  refine kgr_truthy (vs := x :: vs) N (.tail _ (.head _)) rfl rfl (Nat.lt_of_le_of_lt (Nat.succ_le_succ hv) (by decide)) ?_
  rw [show (!(x :: vs).isEmpty) = true from rfl, if_pos rfl]
  k_steps
  unfold Hold
  (with_reducible rename Fr _ _ _ _ => F9)
  (with_reducible rename News _ _ _ _ => N9)
  refine' kl_popAt (k := 0) (p := []) (q := vs) (y := x) F9 N9 ?f ?k ?e (by k_upd) ?z ?_
  (case f => decide +kernel)
  (case k => rw [List.size_toArray]; show seqIndex? 0 (vs.length + 1) = some 0; simp [seqIndex?])
  (case e => rfl)
  (case z => exact Nat.le_trans (Nat.succ_le_succ hv) (by rw [PySem.sizeLine_eq]; decide))
  intro h' F' N'
  (try dsimp only [List.nil_append, List.cons_append] at N')
  dsimp only
  (repeat k_unfold)
  show Lv s g _ _ _
  exact ⟨L, _, _, rfl, F', N', .mk⟩

end
theorem top_off_clexer2 : True := by
  w_top off
  exact True.intro
-- part clexer2
section
local macro_rules | `(tactic| walk_at $s:str) => if ["call type:list", "subscriptTail Name Slice ref ref"].contains s.getString then `(tactic| refine Hold.mk ?_) else Lean.Macro.throwUnsupported
local macro_rules | `(tactic| walk_at "storeName") => `(tactic| ((with_reducible show wpAny _ _ (storeName (envOfC _ _ _ _ _) (Str.ofString "signs") _) _ _ _); refine Hold.mk ?_))
/-- a new lexer over the list S -/
inductive LexNew2 (prog : Program) (w : World) (K : Frag) (p : Program) (loose : List Str) (mean : ExcName → Option Value) (mg mb : Str → Option Value) (lx P a b : Addr) (tl : List (Addr × Obj)) (t : List Nat) : Value → List (Addr × Obj) → Prop
  | mk (z : Lx) (zt : Tok) (l : List (Nat × Tok)) (n : Nat) (hl : l.map (·.1) = t) (h1 : P < z.S) (h2 : P < z.cl) (h3 : P < z.q.c) (h4 : z.Ok prog w K p loose mean mg mb) (h5 : ∀ q ∈ tl, q.1 = P ∨ q = (z.q.c, z.oc)) :
    LexNew2 prog w K p loose mean mg mb lx P a b tl t (.ref z.x) ((P, tabO a b z.q.c) :: z.own lx (z.od w 1 zt) (W.listOf #[] 0) l n)
theorem lex_pack2 {prog : Program} {w : World} {K : Frag} {p : Program} {loose : List Str} {mean : ExcName → Option Value} {mg mb : Str → Option Value} {g h : Heap} {m : Str → Option Value} {L : Addr} {s : Shared} {tk : Nat} {lx P a b S x dx pb y dy f cl : Addr} {q : LamD}
    {oc ocl ody : Obj} {l : List (Nat × Tok)} {n : Nat} {r1 r2 r3 r4 r5 r6 : Tok} {tl : List (Addr × Obj)} {t : List Nat} (F : Fr g L h m)
    (N : News g L h [(pb, W.listOf #[] 0), (x, instObj lx dx), (dx, lexD w 1 (.ref y) pb r1 r2 r3 r4 r5 r6), (f, lamO q), (q.c, oc), (y, instObj lx dy), (dy, ody), (cl, ocl), (P, tabO a b q.c), (S, lstS l n)])
    (ht : l.map (·.1) = t) (hn : Ord S cl dy y f q.c dx x pb) (hp : P < S) (hpl : P < cl) (hpc : P < q.c) (hs : IsStrD w f ody) (hc : IsCode (Str.ofString "_law_lexer.<locals>.<lambda>") oc) (hr : ReadC prog w K p loose mean mg mb f cl S q ocl oc) (htl : ∀ r ∈ tl, r.1 = P ∨ r = (q.c, oc)) :
    Lv s g (LexNew2 prog w K p loose mean mg mb lx P a b tl t) (.ref x) { s with heap := h, toks := tk } :=
  ⟨L, m, _, rfl, F, news_pick N [8, 2, 0, 9, 1, 3, 4, 5, 6, 7] rfl, .mk ⟨x, dx, pb, y, dy, f, cl, S, q, oc, ocl, ody, r1, r3, r4, r5, r6⟩ r2 l n ht hp hpl hpc ⟨hn, hs, hc, hr⟩ htl⟩
/-- behind the signs -/
inductive LexMid0 (g : Heap) (L : Addr) (text : Str) (tl : List (Addr × Obj)) (s : Shared) : Flow → Shared → Prop
  | mk (h : Heap) (tk : Nat) (m : Str → Option Value) (S : Addr) (q : List (Nat × Tok)) (oc : Obj) (F : Fr g L h m) (N : News g L h ((S, lstS q 0) :: (L + 1, oc) :: tl)) (d : oc.data = .cell (some (.ref S))) (hq : q.map (·.1) = text.cps.toList) (hS : @LT.lt Nat _ (L + 1) S) (ht : ∀ q ∈ tl, q.1 < S) : LexMid0 g L text tl s .next { s with heap := h, toks := tk }
/-- behind the stream -/
inductive LexMid1 (w : World) (lx : Addr) (g : Heap) (L S : Addr) (tl : List (Addr × Obj)) (l : List (Nat × Tok)) (n : Nat) (oc : Obj) (s : Shared) : Flow → Shared → Prop
  | mk (h : Heap) (tk : Nat) (m : Str → Option Value) (y dy : Addr) (fp : Value) (pb : Addr) (t1 t2 t3 t4 t5 t6 : Tok) (F : Fr g L h m) (hm : m (Str.ofString "stream") = some (.ref y))
    (N : News g L h ((y, instObj lx dy) :: (dy, lexD w 1 fp pb t1 t2 t3 t4 t5 t6) :: (S, lstS l n) :: (L + 1, oc) :: tl)) (hy : @LT.lt Nat _ dy y) (hlt : ∀ q ∈ ((S, lstS l n) :: (L + 1, oc) :: tl), q.1 < dy) : LexMid1 w lx g L S tl l n oc s .next { s with heap := h, toks := tk }
/-- behind its read -/
inductive LexMid2 (prog : Program) (w : World) (K : Frag) (p : Program) (loose : List Str) (mean : ExcName → Option Value) (mg mb : Str → Option Value) (lx P a b : Addr) (g : Heap) (L S cl : Addr) (l : List (Nat × Tok)) (n : Nat) (ocl : Obj) (tl : List (Addr × Obj)) (s : Shared) : Flow → Shared → Prop
  | mk (h : Heap) (tk : Nat) (m : Str → Option Value) (y dy f : Addr) (q : LamD) (oc ody : Obj) (F : Fr g L h m) (hm : m (Str.ofString "stream") = some (.ref y))
    (N : News g L h [(f, lamO q), (q.c, oc), (y, instObj lx dy), (dy, ody), (cl, ocl), (P, tabO a b q.c), (S, lstS l n)]) (hs : IsStrD w f ody) (hc : IsCode (Str.ofString "_law_lexer.<locals>.<lambda>") oc) (hr : ReadC prog w K p loose mean mg mb f cl S q ocl oc)
    (o1 : @LT.lt Nat _ S dy) (o2 : @LT.lt Nat _ cl dy) (o3 : @LT.lt Nat _ dy y) (o4 : @LT.lt Nat _ y f) (o5 : @LT.lt Nat _ q.c f) (o6 : @LT.lt Nat _ q.c S ∧ @LT.lt Nat _ q.c cl ∨ @LT.lt Nat _ y q.c) (o7 : P < q.c) (o8 : ∀ r ∈ tl, r.1 = P ∨ r = (q.c, oc)) : LexMid2 prog w K p loose mean mg mb lx P a b g L S cl l n ocl tl s .next { s with heap := h, toks := tk }
theorem fitL {n : Nat} (h : n ≤ 5000) : n ≤ sizeLine := Nat.le_trans h (by rw [PySem.sizeLine_eq]; decide)
theorem text_signs {text : Str} {q : List (Nat × Tok)} {zs : List Value} (hlen : text.length ≤ 5000) (hq1 : q.map (·.1) = text.cps.toList) (hq2 : zs.reverse = sigs q) : q.length ≤ 5000 ∧ zs.toArray.size ≤ sizeLine := by
  have h3 : q.length ≤ 5000 := by rw [← List.length_map (f := fun x : Nat × Tok => x.1), hq1, ← len_toList]; exact hlen
  exact ⟨h3, by rw [List.size_toArray, ← List.length_reverse, hq2, sigs_len]; exact fitL h3⟩
set_option maxRecDepth 100000 in
set_option maxHeartbeats 8000000 in
theorem lexer2_k (w : World) {p : Program} {loose : List Str} {mean : ExcName → Option Value} {mg mb : Str → Option Value} (tl : List (Addr × Obj)) (htl : Tabs 116 102 18 tl) (text : Str) (t0 : Tok) (hlen : text.length ≤ 5000) :
    Ctr PySem.Challenge.rw_pm0015_02.row.prog w (Mine.hd.heap_39 w.params) p loose mean mg mb 6 90 121 [.str text t0] tl
      (LexNew2 PySem.Challenge.rw_pm0015_02.row.prog w (Mine.hd.heap_39 w.params) p loose mean mg mb 52 116 102 18 tl text.cps.toList) noErr noErrN := by
  k_fill
  ((k_dflt (refine' ctr_enterC ?k6 ?k7 ?k9 ?kB ?kD ?_ ?c2 ?c3 ?c4; (case k6 => k_is); (case k7 => k_is); (case k9 => exact fun _ => BindsTo.of_eq rfl); (case kB => exact rfl); (case kD => decide +kernel); (case c2 => exact rfl); (case c3 => exact rfl); (case c4 => exact rfl); k_whole)))
  intro dp un gd fr base g L h₁ s tk cells hd hu hg B F N Y X T hlt D
  k_cells Y
  rename _ = Data.cell _ => d1
  rename Obj => ocl9
  (try dsimp only)
  have hCo : CodeHd g 120 116 := codeHd_of X (by kernel_rfl)
  (with_reducible show wpAny _ _ _ _ _ _)
  refine capture2 (fun ps bd sc => ∀ (f cl S c : Addr) (nm ql : Str) (pm ctv : Value) (oc ocl : Obj) (vs : Array Value) (t : Tok), oc.data = .fields vs → vs[1]? = some (.str ql t) → ocl.data = .cell (some (.ref S)) → f ≠ S → c ≠ S → cl ≠ S →
    ReadC PySem.Challenge.rw_pm0015_02.row.prog w (Mine.hd.heap_39 w.params) p loose mean mg mb f cl S ⟨nm, ql, ps, bd, sc, [(Str.ofString "signs", cl)], pm, c, ctv⟩ ocl oc) ?_ ?_
  · clear D hlt T X N F B hg hu hd hlen
    intro f cl S c nm ql pm ctv oc ocl vs t e1 e2 e3 n1 n2 n3
    intro l n t hl
    have hz : l.length ≤ sizeLine := Nat.le_trans hl (by decide +kernel)
    rcases l with _ | ⟨⟨c, u⟩, r⟩
    · skip
      k_fill
      ((k_dflt (refine' ctr_enterL ?k6 ?k7 ?k8 ?k9 ?kA ?kB ?_ ?c2 ?c3 ?c4 ?c5; (case k6 => k_mem); (case k7 => k_mem); (case k8 => assumption); (case k9 => assumption); (case kA => exact rfl); (case c5 => (dsimp only; decide)); (case kB => exact locs rfl); (case c2 => exact rfl); (case c3 => exact rfl); (case c4 => exact rfl); k_whole)))
      intro dp un gd fr base g L h₁ s hd hu hg B F N X T hlt D
      generalize hbig : lamO _ = big at N
      clear hg hlt
      (try dsimp only)
      (((try dsimp only); (with_reducible show wpAny _ _ _ _ _ _); k_fold))
      k_steps
      (try unfold Hold)
      (with_reducible rename Fr _ _ _ _ => F8)
      (with_reducible rename News _ _ _ _ => N8)
      subst hbig
      exact ⟨L, _, _, rfl, F8, N8, .nil n _⟩
    · rw [show lstS ((c, u) :: r) n = W.listOf (sigs r ++ [Value.str ⟨#[c]⟩ u]).toArray n from by rw [lstS, sigs_cons]]
      k_fill
      ((k_dflt (refine' ctr_enterL ?k6 ?k7 ?k8 ?k9 ?kA ?kB ?_ ?c2 ?c3 ?c4 ?c5; (case k6 => k_mem); (case k7 => k_mem); (case k8 => assumption); (case k9 => assumption); (case kA => exact rfl); (case c5 => (dsimp only; decide)); (case kB => exact locs rfl); (case c2 => exact rfl); (case c3 => exact rfl); (case c4 => exact rfl); k_whole)))
      intro dp un gd fr base g L h₁ s hd hu hg B F N X T hlt D
      generalize hbig : lamO _ = big at N
      clear hg hlt
      (try dsimp only)
      (((try dsimp only); (with_reducible show wpAny _ _ _ _ _ _); k_fold))
      k_steps
      have hll : (sigs r ++ [Value.str ⟨#[c]⟩ u]).length < 2 ^ 62 := by
        rw [List.length_append, sigs_len]
        have : (List.length ((c, u) :: r)) ≤ 5000 := hl
        simp only [List.length_cons, List.length_nil] at this ⊢
        omega
      refine kgr_truthy N (.tail _ (.tail _ (.tail _ (.head _)))) rfl rfl hll ?_
      rw [show (!(sigs r ++ [Value.str ⟨#[c]⟩ u]).isEmpty) = true from by cases sigs r <;> rfl, if_pos rfl]
      (((try dsimp only); (with_reducible show wpAny _ _ _ _ _ _); k_fold))
      k_steps
      try any_goals (first | exact Str.empty | exact Value.none | exact (0 : Nat))
      dsimp only
      (with_reducible rename Fr _ _ _ _ => F9)
      (with_reducible rename News _ _ _ _ => N9)
      have hz2 : (sigs r ++ [Value.str ⟨#[c]⟩ u]).length ≤ sizeLine := by
        rw [List.length_append, sigs_len]; exact hz
      refine' kl_pop F9 N9 (p := sigs r) (y := Value.str ⟨#[c]⟩ u) ?e ?U ?z ?_
      (case e => exact kpa_last _ _)
      (case U => exact .tail n1 (.tail n2 (.tail n3 (.head (List.forall_mem_nil _)))))
      (case z => simpa using hz2)
      intro h' F' N'
      show Lv s g _ _ _
      subst hbig
      exact ⟨L, _, _, rfl, F', N', .cons (c, u) r n⟩
  · intro hread
    have hP : @LT.lt Nat _ 116 L := by
      rcases htl with rfl | ⟨c0, oc0, vs0, t0, hPc, rfl, e1, e2⟩
      · exact hlt _ (List.mem_cons_self ..)
      · exact hlt _ (List.mem_cons_self ..)
    refine wpAny_execs_cons (wpAny_mono (Q := fun fl s' => LexMid0 g L text tl s fl s') ?m0 (fun fl s' hm => ?r0) (fun _ _ e => e))
    (case m0 =>
      clear hread
      (try simp only [List.cons_append, List.nil_append] at N)
      (((try dsimp only); (with_reducible show wpAny _ _ _ _ _ _); k_fold))
      k_steps
      any_goals (first | exact Str.empty | exact Value.none | exact (0 : Nat))
      unfold Hold
      (with_reducible rename Fr _ _ _ _ => F3)
      refine list_strN rfl F3 N (fitL hlen) ?_
      intro D2 cap h4 tk4 zs F4 N4 l4 ca4
      clear F3 N
      (((try dsimp only); (with_reducible show wpAny _ _ _ _ _ _); k_fold))
      k_steps
      unfold Hold
      obtain ⟨q, hq1, hq2⟩ := signs_vals text.cps.toList zs ca4
      clear ca4 l4
      obtain ⟨hql, hzl⟩ := text_signs hlen hq1 hq2
      have il4 : h4.IsList D2 zs.toArray := ⟨_, (N4 (D2, W.listOf zs.toArray cap) (List.mem_cons_self ..)).1, rfl, cap, rfl⟩
      refine' krv_lit (s := { s with heap := h4, toks := tk4 + 1 + 1 }) (its := zs.toArray) ?kF ?kN ?kl ?k hq2 ?_ ?s ?t ?z
      (case kF => exact F4)
      (case kN => exact N4)
      (case kl => exact il4)
      (case k => exact IsPart.int _ _)
      (case s => with_unfolding_all rfl)
      (case t => exact fun _ => rfl)
      (case z => exact hzl)
      intro D3 h5 F5 N5 l5
      have N6 := news_pickT (M := (D3, lstS q 0) :: (L + 1, ocl9) :: tl) N5 [0] 2 rfl
      have hLD : @LT.lt Nat _ (L + 1) D3 := l5 (L + 1, ocl9) (List.mem_cons_of_mem _ (List.mem_cons_self ..))
      have hlD : ∀ q ∈ tl, q.1 < D3 := fun q hq => l5 q (List.mem_cons_of_mem _ (List.mem_cons_of_mem _ hq))
      clear F4 N4 N5 il4 l5 hzl hq2
      (((try dsimp only); (with_reducible show wpAny _ _ _ _ _ _); k_fold))
      k_steps
      (try unfold Hold)
      refine' storeX_C F5 N6 ?c9 (.tail (p := (D3, lstS q 0)) (Ne.symm (Nat.ne_of_lt hLD)) (.head fun q hq => Nat.ne_of_lt (Nat.lt_succ_of_lt (hlt q hq)))) d1 ?_ ?a9 ?b9
      (case a9 => rfl)
      (case b9 => rfl)
      (case c9 => rfl)
      intro h6 oc6 F6 N7 d6
      clear F5 N6 d1
      (try dsimp only at N7)
      k_steps
      (try unfold Hold)
      exact .mk _ _ _ _ q _ F6 N7 d6 hq1 hLD hlD)
    clear N F d1
    obtain ⟨h, tk, m, S, l, oc6, F, N, d6, hq1, hLS, hlS⟩ := hm
    dsimp only
    refine wpAny_execs_cons (wpAny_mono (Q := fun fl s' => LexMid1 w 52 g L S tl l 0 oc6 s fl s') ?m1 (fun fl s' hm => ?r1) (fun _ _ e => e))
    (case m1 =>
      clear hread htl
      (((try dsimp only); (with_reducible show wpAny _ _ _ _ _ _); k_fold))
      k_steps
      try any_goals (first | exact Str.empty | exact Value.none | exact (0 : Nat))
      unfold Hold
      refine' cls_use (own := []) (fun x dx hdx => init_k w x dx hdx _) (fun _ _ _ _ h => h.none) B F X T D N ?a1 ?a2 ?a3 ?a4 ?a5 ?a6 ?a7 ?a8 ?_
      (case a1 => rfl)
      (case a2 => rfl)
      (case a3 => k_is)
      (case a4 => k_is)
      (case a5 => k_is)
      (case a6 => exact lt_up 4 hd rfl)
      (case a7 => exact lt_up 24 hu rfl)
      (case a8 => exact fun _ _ h => nomatch h)
      rintro y dy own' h' tk' hdy ⟨pb, t1, t2, t3, t4, t5, t6, hpb⟩ F1 N1 _ l1
      replace N1 := news_pickT N1 [] 1 rfl
      clear F N
      (((try dsimp only); (with_reducible show wpAny _ _ _ _ _ _); k_fold))
      k_steps
      try any_goals (first | exact Str.empty | exact Value.none | exact (0 : Nat))
      (try unfold Hold)
      (with_reducible rename Fr _ _ _ _ => F)
      (with_reducible rename News _ _ _ _ => N)
      exact .mk _ _ _ y dy _ pb _ _ _ _ _ _ F (by rfl) N hdy l1)
    clear F N
    obtain ⟨h, tk, m, y, dy, fp, pb, t1, t2, t3, t4, t5, t6, F, hm, N, hdy, l1⟩ := hm
    dsimp only
    refine wpAny_execs_cons (wpAny_mono (Q := fun fl s' => LexMid2 PySem.Challenge.rw_pm0015_02.row.prog w (Mine.hd.heap_39 w.params) p loose mean mg mb 52 116 102 18 g L S (L + 1) l 0 oc6 tl s fl s') ?m2 (fun fl s' hm2 => ?r2) (fun _ _ e => e))
    (case m2 =>
      have hSd : @LT.lt Nat _ S dy := l1 (S, lstS l 0) (List.mem_cons_self ..)
      have hLd : @LT.lt Nat _ (L + 1) dy := l1 (L + 1, oc6) (List.mem_cons_of_mem _ (List.mem_cons_self ..))
      have hPL : @LT.lt Nat _ 116 (L + 1) := Nat.lt_succ_of_lt hP
      have hPS : @LT.lt Nat _ 116 S := Nat.lt_trans hPL hLS
      rcases htl with rfl | ⟨c0, oc0, vs0, t0, hPc, rfl, e1, e2⟩
      · clear l1 hlt hlS
        simp only [lexD, ent] at N
        (((try dsimp only); (with_reducible show wpAny _ _ _ _ _ _); k_fold))
        k_steps
        try any_goals (first | exact Str.empty | exact Value.none | exact (0 : Nat))
        (try unfold Hold)
        (with_reducible rename Fr _ _ _ _ => F)
        (with_reducible rename News _ _ _ _ => N)
        rename _ = Data.fields _ => e1
        rename _ = some (Value.str _ _) => e2
        rename (y < (_ : Nat)) ∧ _ => l1
        rename (_ : Nat) < (_ : Nat) => l2
        have hSf := Nat.lt_trans l1.2.2.1 l2
        exact .mk _ _ _ y dy _ ⟨_, _, _, _, _, _, _, _, _⟩ _ _ F hm (news_pick N [0, 1, 2, 3, 5, 6, 4] rfl) ⟨_, _, _, _, _, _, _, _, _, rfl⟩ ⟨_, _, e1, e2⟩ (hread _ _ _ _ _ _ _ _ _ _ _ _ e1 e2 d6 (Nat.ne_of_gt hSf) (Nat.ne_of_gt l1.2.2.1) (Nat.ne_of_lt hLS)) hSd hLd hdy (Nat.lt_trans l1.1 l2) l2 (.inr l1.1) (Nat.lt_trans hPS l1.2.2.1) (fun q hq => .inl (by rw [List.mem_singleton.mp hq]))
      · have hcS : @LT.lt Nat _ c0 S := hlS (c0, oc0) (List.mem_cons_of_mem _ (List.mem_cons_self ..))
        have hcL : @LT.lt Nat _ c0 L := hlt (c0, oc0) (List.mem_cons_of_mem _ (List.mem_cons_self ..))
        clear l1 hlt hlS
        simp only [lexD, ent, tabO] at N
        (((try dsimp only); (with_reducible show wpAny _ _ _ _ _ _); k_fold))
        k_steps
        try any_goals (first | exact Str.empty | exact Value.none | exact (0 : Nat))
        (try unfold Hold)
        (with_reducible rename Fr _ _ _ _ => F)
        (with_reducible rename News _ _ _ _ => N)
        rename (y < (_ : Nat)) ∧ _ => l1
        exact .mk _ _ _ y dy _ ⟨_, _, _, _, _, _, _, _, _⟩ _ _ F hm (news_pick N [0, 6, 1, 2, 4, 5, 3] rfl) ⟨_, _, _, _, _, _, _, _, _, rfl⟩ ⟨_, _, e1, e2⟩ (hread _ _ _ _ _ _ _ _ _ _ _ _ e1 e2 d6 (Nat.ne_of_gt l1.2.2.1) (Nat.ne_of_lt hcS) (Nat.ne_of_lt hLS)) hSd hLd hdy l1.1 l1.2.2.2.2.2 (.inl ⟨hcS, Nat.lt_succ_of_lt hcL⟩) hPc (fun q hq => by
          rcases List.mem_cons.mp hq with rfl | hq
          · exact .inl rfl
          · exact .inr (List.mem_singleton.mp hq)))
    clear F N hm hdy l1 hread
    obtain ⟨h, tk, m, y, dy, f, q, oc, ody, F, hm, N, hs, hc, hr, o1, o2, o3, o4, o5, o6, o7, o8⟩ := hm2
    dsimp only
    (((try dsimp only); (with_reducible show wpAny _ _ _ _ _ _); k_fold))
    k_steps
    try any_goals (first | exact Str.empty | exact Value.none | exact (0 : Nat))
    unfold Hold
    refine' cls_use (own := []) (fun x dx hdx => init_k w x dx hdx _) (fun _ _ _ _ h => h.none) B F X T D N ?a1 ?a2 ?a3 ?a4 ?a5 ?a6 ?a7 ?a8 ?_
    (case a1 => rfl)
    (case a2 => rfl)
    (case a3 => k_is)
    (case a4 => k_is)
    (case a5 => k_is)
    (case a6 => exact lt_up 4 hd rfl)
    (case a7 => exact lt_up 24 hu rfl)
    (case a8 => exact fun _ _ h => nomatch h)
    rintro x dx own' h' tk' hdx ⟨pb2, r1, r2, r3, r4, r5, r6, hpb2⟩ F1 N1 _ l4
    dsimp only
    (repeat k_unfold)
    (try unfold Hold)
    exact lex_pack2 F1 N1 hq1 ⟨.inr hLS, o1, o2, o3, o4, l4 (f, lamO q) (List.mem_cons_self ..), hdx, hpb2, o5, o6⟩ (Nat.lt_trans (Nat.lt_succ_of_lt hP) hLS) (Nat.lt_succ_of_lt hP) o7 hs hc hr o8

end
theorem top_off_c229r : True := by
  w_top off
  exact True.intro
-- part c229r
section
local macro_rules | `(tactic| walk_at $s:str) => if ["leaving ref"].contains s.getString then `(tactic| refine Hold.mk ?_) else Lean.Macro.throwUnsupported
set_option maxRecDepth 100000 in
set_option maxHeartbeats 8000000 in
theorem p229r_k (w : World) {p : Program} {loose : List Str} {mean : ExcName → Option Value} {mg mb : Str → Option Value} (text : Str) (tk0 : Tok) (pr : Addr) (opr : Obj) (h3 : text.cps.toList.take 3 ≠ [50, 50, 57]) (hlen : text.length ≤ 1048576) :
    CtrG none PySem.Challenge.rw_pm0015_02.row.prog w (Mine.hd.heap_39 w.params) p loose mean mg mb 2 20 100 [.str text tk0, .ref pr] [(pr, opr)]
      (fun _ _ => False) (FlewC (.ref 79) [.str text tk0]) := by
  k_fill
  (k_dflt (refine' ctrG_enter ?k6 ?k7 ?k9 ?kB ?_ ?c2 ?c3 ?c4 ?c5; (case k6 => k_is); (case k7 => k_is); (case k9 => exact fun _ => BindsTo.of_eq rfl); (case c5 => decide); (case kB => exact locs rfl); (case c2 => exact rfl); (case c3 => exact rfl); (case c4 => exact rfl); k_whole))
  intro dp un gd fr base g L h₁ s hd hu hg B F N X T hlt D
  (try dsimp only)
  refine wpAny_execs_cons (wpAny_mono (Q := fun _ _ => False) ?front (fun _ _ h => h.elim) (fun _ _ h => h))
  have e3 : ∀ {b : Bool}, (Txt.slice text none (some 3) != Str.ofString "229") = b → b = true := fun h => by
    rw [str_bne (x := Txt.slice text none (some 3)) (slice_ns text 3) (m := [50, 50, 57]) rfl] at h
    rw [← h]; simpa using h3
  (((try dsimp only); (with_reducible show wpAny _ _ _ _ _ _); k_fold))
  k_steps
  all_goals (try unfold Hold)
  (with_reducible rename Fr _ _ _ _ => F9)
  rename Heap.MadeExcOf _ _ _ _ _ => M9
  obtain ⟨kp, nw, t, he, htn, ht⟩ := M9
  refine' leave_raiseC B F9 kp nw he rfl rfl rfl rfl htn ⟨_, _, ht, rfl, rfl⟩ ?lv
  (case lv =>
    intro h2 R9 U9 c9
    exact ⟨rfl, U9, _, _, rfl, R9, c9 rfl⟩)

end
theorem top_off_creply : True := by
  w_top off
  exact True.intro
-- part creply
noncomputable def markS (m : Int) : Str := Txt.item (Str.ofString "|! ") m
noncomputable def digS (n : Int) : Str := Str.ofString (toString n)
noncomputable def nameS (k n : Int) : Str := Str.ofString "\\ \"" ++ Txt.mul (Str.ofString "\"\"") n ++ (if k.fmod 3 = 0 then Str.ofString "" else if k.fmod 3 = 1 then Str.ofString "\"" else Str.ofString "\"\\ \"")
/-- the text of a reply -/
noncomputable def repS (k n m : Int) : Str :=
  if k < 2 then Str.ofString "\"229 (" ++ Txt.mul (markS m) 3 ++ digS n ++ markS m ++ Str.ofString ")\"" else
  if k = 2 then Str.ofString "\"229 (" ++ Txt.mul (markS m) 3 ++ digS n ++ Str.ofString "x" ++ markS m ++ Str.ofString ")\"" else
  if k = 6 then Str.ofString "\"229 (" ++ Txt.mul (markS m) 2 ++ digS n ++ markS m ++ Str.ofString ")\"" else
  if k = 7 then Str.ofString "250" ++ nameS k n else Str.ofString "257" ++ nameS k n
noncomputable def repN (k n : Int) : Int := if k < 2 then n else if k = 2 then -2 else if k = 6 then -1 else if k = 7 then -3 else n
noncomputable def RepIs (v : Value) (own' : List (Addr × Obj)) : Prop :=
  ∃ (k n m : Nat) (R : Addr) (t1 t2 : Tok), k < 8 ∧ n < 16 ∧ m < 3 ∧ v = .ref R ∧ own' = [(R, W.listOf #[.str (repS k n m) t1, .int (repN k n) t2] 0)]
section
variable {k n m : Int}
theorem repS_a (h : k < 2) : Str.ofString "\"229 (" ++ Txt.mul (Txt.item (Str.ofString "|! ") m) 3 ++ Str.ofString (toString n) ++ Txt.item (Str.ofString "|! ") m ++ Str.ofString ")\"" = repS k n m := (if_pos h).symm
theorem repS_b (h : ¬ k < 2) (h2 : k = 2) : Str.ofString "\"229 (" ++ Txt.mul (Txt.item (Str.ofString "|! ") m) 3 ++ Str.ofString (toString n) ++ Str.ofString "x" ++ Txt.item (Str.ofString "|! ") m ++ Str.ofString ")\"" = repS k n m := ((if_neg h).trans (if_pos h2)).symm
theorem repS_c (h : ¬ k < 2) (h2 : ¬ k = 2) (h6 : k = 6) : Str.ofString "\"229 (" ++ Txt.mul (Txt.item (Str.ofString "|! ") m) 2 ++ Str.ofString (toString n) ++ Txt.item (Str.ofString "|! ") m ++ Str.ofString ")\"" = repS k n m := ((if_neg h).trans ((if_neg h2).trans (if_pos h6))).symm
theorem repS_d {e : Str} (he : e = nameS k n) (h : ¬ k < 2) (h2 : ¬ k = 2) (h6 : ¬ k = 6) (h7 : k = 7) : Str.ofString "250" ++ e = repS k n m := by rw [he]; exact ((if_neg h).trans ((if_neg h2).trans ((if_neg h6).trans (if_pos h7)))).symm
theorem repS_e {e : Str} (he : e = nameS k n) (h : ¬ k < 2) (h2 : ¬ k = 2) (h6 : ¬ k = 6) (h7 : ¬ k = 7) : Str.ofString "257" ++ e = repS k n m := by rw [he]; exact ((if_neg h).trans ((if_neg h2).trans ((if_neg h6).trans (if_neg h7)))).symm
theorem nameS_0 (h : k.fmod 3 = 0) : Str.ofString "\\ \"" ++ Txt.mul (Str.ofString "\"\"") n ++ Str.ofString "" = nameS k n := by rw [nameS, if_pos h]
theorem nameS_1 (h : k.fmod 3 = 1) : Str.ofString "\\ \"" ++ Txt.mul (Str.ofString "\"\"") n ++ Str.ofString "\"" = nameS k n := by rw [nameS, h]; rfl
theorem nameS_2 (h : k.fmod 3 = 2) : Str.ofString "\\ \"" ++ Txt.mul (Str.ofString "\"\"") n ++ Str.ofString "\"\\ \"" = nameS k n := by rw [nameS, h]; rfl
theorem repN_a (h : k < 2) : n = repN k n := (if_pos h).symm
theorem repN_b (h : ¬ k < 2) (h2 : k = 2) : -2 = repN k n := ((if_neg h).trans (if_pos h2)).symm
theorem repN_c (h : ¬ k < 2) (h2 : ¬ k = 2) (h6 : k = 6) : -1 = repN k n := ((if_neg h).trans ((if_neg h2).trans (if_pos h6))).symm
theorem repN_d (h : ¬ k < 2) (h2 : ¬ k = 2) (h6 : ¬ k = 6) (h7 : k = 7) : -3 = repN k n := ((if_neg h).trans ((if_neg h2).trans ((if_neg h6).trans (if_pos h7)))).symm
theorem repN_e (h : ¬ k < 2) (h2 : ¬ k = 2) (h6 : ¬ k = 6) (h7 : ¬ k = 7) : n = repN k n := ((if_neg h).trans ((if_neg h2).trans ((if_neg h6).trans (if_neg h7)))).symm
end
theorem rep_end {g h : Heap} {L R : Addr} {mm : Str → Option Value} {s : Shared} {tk k n m : Nat} {kk nn mk : Int} {y : Str} {i : Int} {t1 t2 : Tok} (F : Fr g L h mm) {rest : List (Addr × Obj)} (N : News g L h ((R, W.listOf #[.str y t1, .int i t2] 0) :: rest)) (hk : k < 8) (hn : n < 16) (hm : m < 3)
    (ek : kk = k) (en : nn = n) (em : mk = m) (hy : y = repS kk nn mk) (hi : i = repN kk nn) : Lv s g RepIs (.ref R) { s with heap := h, toks := tk } := by
  subst hy hi ek en em
  exact ⟨L, _, _, rfl, F, news_sub N (fun q hq => by rw [List.mem_singleton.mp hq]; exact List.mem_cons_self ..), k, n, m, R, t1, t2, hk, hn, hm, rfl, rfl⟩
theorem fm_nat (x : Int) (d : Nat) (h : 0 < d) : ∃ n : Nat, x.fmod d = n ∧ n < d := by
  have h1 := Int.fmod_nonneg_of_pos x (b := d) (by omega)
  have h2 := Int.fmod_lt_of_pos x (b := d) (by omega)
  exact ⟨(x.fmod d).toNat, by omega, by omega⟩
set_option maxRecDepth 100000 in
set_option maxHeartbeats 8000000 in
theorem reply_k (w : World) {p : Program} {loose : List Str} {mean : ExcName → Option Value} {mg mb : Str → Option Value} (x : Int) (tx : Tok) :
    Ctr PySem.Challenge.rw_pm0015_02.row.prog w (Mine.hd.heap_39 w.params) p loose mean mg mb 2 20 114 [.int x tx] [] RepIs noErr noErrN := by
  obtain ⟨k, hk, hk8⟩ := fm_nat x 8 (by decide)
  obtain ⟨n, hn, hn16⟩ := fm_nat (x.fdiv 8) 16 (by decide)
  obtain ⟨m, hm, hm3⟩ := fm_nat (x.fdiv 128) 3 (by decide)
  have hk : x.fmod 8 = (k : Int) := hk
  have hn : (x.fdiv 8).fmod 16 = (n : Int) := hn
  have hm : (x.fdiv 128).fmod 3 = (m : Int) := hm
  have hn0 : 0 ≤ (x.fdiv 8).fmod 16 := by omega
  have hn1 : (x.fdiv 8).fmod 16 < 16 := by omega
  k_fill
  (k_dflt (refine' ctr_enter ?k6 ?k7 ?k9 ?kB ?_ ?c2 ?c3 ?c4 ?c5; (case k6 => k_is); (case k7 => k_is); (case k9 => exact fun _ => BindsTo.of_eq rfl); (case c5 => decide); (case kB => exact locs rfl); (case c2 => exact rfl); (case c3 => exact rfl); (case c4 => exact rfl); k_whole))
  intro dp un gd fr base g L h₁ s hd hu hg B F N X T hlt D
  (try dsimp only)
  k_fold
  k_steps
  all_goals (try unfold Hold)
  all_goals (with_reducible rename Fr _ _ _ _ => F9)
  all_goals (with_reducible rename News _ _ _ _ => N9)
  all_goals (show Lv s g _ _ _)
  all_goals (refine rep_end F9 N9 hk8 hn16 hm3 hk hn hm ?_ ?_)
  all_goals (clear F9 N9)
  all_goals with_reducible first
    | exact repS_a (by assumption)
    | exact repN_a (by assumption)
    | exact repS_b (by assumption) (by assumption)
    | exact repN_b (by assumption) (by assumption)
    | exact repS_c (by assumption) (by assumption) (by assumption)
    | exact repN_c (by assumption) (by assumption) (by assumption)
    | exact repN_d (by assumption) (by assumption) (by assumption) (by assumption)
    | exact repN_e (by assumption) (by assumption) (by assumption) (by assumption)
    | exact repS_d (nameS_0 (by assumption)) (by assumption) (by assumption) (by assumption) (by assumption)
    | exact repS_d (nameS_1 (by assumption)) (by assumption) (by assumption) (by assumption) (by assumption)
    | exact repS_d (nameS_2 (by assumption)) (by assumption) (by assumption) (by assumption) (by assumption)
    | exact repS_e (nameS_0 (by assumption)) (by assumption) (by assumption) (by assumption) (by assumption)
    | exact repS_e (nameS_1 (by assumption)) (by assumption) (by assumption) (by assumption) (by assumption)
    | exact repS_e (nameS_2 (by assumption)) (by assumption) (by assumption) (by assumption) (by assumption)
    | skip

theorem top_off_c257h : True := by
  w_top off
  exact True.intro
-- part c257h
section
local macro_rules | `(tactic| walk_at $s:str) => if ["leaving ref", "exec Raise some none"].contains s.getString then `(tactic| refine Hold.mk ?_) else Lean.Macro.throwUnsupported
set_option maxRecDepth 100000 in
set_option maxHeartbeats 8000000 in
theorem p257h_k (w : World) {p : Program} {loose : List Str} {mean : ExcName → Option Value} {mg mb : Str → Option Value} (y : Addr) (oy : Obj) (ws : Array Value) (hoy : oy.data = .fields ws) (hcy : ws[2]? = some .none) (text : Str) (tk0 : Tok) (hlen : text.length ≤ 1048576) :
    CtrG (some (.ref y)) PySem.Challenge.rw_pm0015_02.row.prog w (Mine.hd.heap_39 w.params) p loose mean mg mb 2 20 107 [.str text tk0] [(y, oy)] (P257 text)
      (fun base fr g s v s' => Flew base fr g (fun cls vs => cls = .ref 79 ∧ vs = [.str text tk0] ∧ text.cps.toList.take 3 ≠ [50, 53, 55]) noErrN s v s') := by
  k_fill
  (k_dflt (refine' ctrG_enter ?k6 ?k7 ?k9 ?kB ?_ ?c2 ?c3 ?c4 ?c5; (case k6 => k_is); (case k7 => k_is); (case k9 => exact fun _ => BindsTo.of_eq rfl); (case c5 => decide); (case kB => exact locs rfl); (case c2 => exact rfl); (case c3 => exact rfl); (case c4 => exact rfl); k_whole))
  intro dp un gd fr base g L h₁ s hd hu hg B F N X T hlt D
  (try dsimp only)
  k_fold
  k_steps
  all_goals (try unfold Hold)
  all_goals (rename (Txt.slice text none (some 3) != _) = _ => h3; rw [str_bne (x := Txt.slice text none (some 3)) (slice_ns text 3) (m := [50, 53, 55]) rfl] at h3)
  · refine' Raise_ownH ?F ?g ?O PySem.F.excBase_Exception ?h ?_ ?a ?b ?c ?d ?e
    (case F => k_asm)
    (case g => exact TopRead.g (by k_asm))
    (case O => exact own_of_in (by k_asm) (by k_asm) (by k_is) (by k_exc))
    (case h => rfl)
    (case a => rfl)
    (case b => rfl)
    (case c => rfl)
    (case d => rfl)
    (case e => decide)
    (((try dsimp only); (with_reducible show wpAny _ _ _ _ _ _); k_fold))
    k_steps
    · (with_reducible rename News _ _ _ _ => N9)
      exact ⟨oy, ws, (N9 _ (List.mem_cons_self ..)).1, hoy, hcy⟩
    · (try unfold Hold)
      (with_reducible rename Fr _ _ _ _ => F9)
      rename MadeH _ _ _ _ _ _ => M9
      obtain ⟨kp, nw, t, oe, we, he, hcl, hde, he0, he1, htn, ht⟩ := M9
      refine' leave_raiseC B F9 kp nw he hcl hde he0 he1 htn ht ?lv
      (case lv =>
        intro h2 R9 U9 c9
        exact flew_S R9 U9 ⟨rfl, rfl, by simpa using h3⟩)
  all_goals (replace h3 : text.cps.toList.take 3 = [50, 53, 55] := by simpa using h3)
  all_goals (rename (Txt.slice text (some 3) (some 5) != _) = _ => h5; rw [str_bne (x := Txt.slice text (some 3) (some 5)) (slice_ss text 3 5) (m := [32, 34]) rfl] at h5)
  · k_steps
    unfold Hold
    (with_reducible rename Fr _ _ _ _ => F9)
    exact ⟨_, _, [], rfl, F9, News.nil, .of h3 (by rw [v257, if_neg (by simpa using h5)]; rfl) _⟩
  · (with_reducible rename Fr _ _ _ _ => F9)
    (with_reducible rename News _ _ _ _ => N9)
    refine while_inv (fun k m news => inv257 text m k news) F9 News.nil (n₀ := text.length - 5) (.mk 5 ⟨#[]⟩ _ _ _ _ (by rfl) (by rfl) (by rfl) (by rfl) (.start (by simpa using h5))) ?_
    clear F9 N9 h5
    rintro n m₁ news₁ h tk1 ⟨i, dn, t1, t2, t3, t4, hr, hii, hn, hdn, hat⟩ F N
    have hb1 := hat.h5
    have hb2 := hat.hi
    have hb3 := hat.hdl
    k_steps
    · rename (Txt.item text (i : Int) == _) = _ => hc
      rename (text.length : Int) ≤ (i : Int) + 1 => hl
      have hx := hat.one hc hl
      unfold Hold
      dsimp only [TurnEnd]
      k_steps
      unfold Hold
      (with_reducible rename Fr _ _ _ _ => F9)
      exact ⟨_, _, [], rfl, F9, News.nil, .of h3 hx _⟩
    · rename (Txt.item text (i : Int) == _) = _ => hc
      rename (Txt.item text ((i : Int) + 1) != _) = _ => hd1
      rename ¬ ((text.length : Int) ≤ (i : Int) + 1) => hl
      have hx := hat.two hc hl hd1
      unfold Hold
      dsimp only [TurnEnd]
      k_steps
      unfold Hold
      (with_reducible rename Fr _ _ _ _ => F9)
      exact ⟨_, _, [], rfl, F9, News.nil, .of h3 hx _⟩
    · unfold Hold
      rename (Txt.item text (i : Int) == _) = _ => hc
      rename (Txt.item text ((i : Int) + 1) != _) = _ => hd1
      rename ¬ ((text.length : Int) ≤ (i : Int) + 1) => hl
      rename (i : Int) < (text.length : Int) => hlt
      (with_reducible rename Fr _ _ _ _ => F9)
      (with_reducible rename News _ _ _ _ => N9)
      exact ⟨_, _, _, _, _, At57.lt2 hlt, rfl, F9, N9, .mk (i + 2) (dn ++ Txt.item text (i : Int)) _ _ _ _ (by exact hr) (by rfl) (by exact hn) (by rfl) (hat.dbl hc hl hd1)⟩
    · unfold Hold
      rename (Txt.item text (i : Int) == _) = _ => hc
      rename (i : Int) < (text.length : Int) => hlt
      (with_reducible rename Fr _ _ _ _ => F9)
      (with_reducible rename News _ _ _ _ => N9)
      exact ⟨_, _, _, _, _, At57.lt1 hlt, rfl, F9, N9, .mk (i + 1) (dn ++ Txt.item text (i : Int)) _ _ _ _ (by exact hr) (by rfl) (by exact hn) (by rfl) (hat.step hlt hc)⟩
    · rename ¬ ((i : Int) < (text.length : Int)) => hl
      have hx := hat.stop hl
      k_steps
      unfold Hold
      (with_reducible rename Fr _ _ _ _ => F9)
      exact ⟨_, _, [], rfl, F9, News.nil, .of h3 hx _⟩

end
theorem top_off_cnamed : True := by
  w_top off
  exact True.intro
-- part cnamed
theorem name257_len : ∀ l : List Nat, (name257 l).length ≤ l.length
  | [] => Nat.le_refl _
  | [c] => by unfold name257; split <;> simp
  | c :: d :: r => by
    unfold name257
    split
    · split
      · exact Nat.succ_le_succ (Nat.le_succ_of_le (name257_len r))
      · simp
    · exact Nat.succ_le_succ (name257_len (d :: r))
theorem v257_len (t : Str) : (v257 t).length ≤ t.length := by
  unfold v257
  split
  · rw [strOf_len]
    exact Nat.le_trans (name257_len _) (by rw [List.length_drop, len_toList]; exact Nat.sub_le ..)
  · exact Nat.zero_le _
/-- how many signs a name has -/
inductive NamedIs (text : Str) : Value → List (Addr × Obj) → Prop
  | code (h3 : text.cps.toList.take 3 ≠ [50, 53, 55]) (t : Tok) : NamedIs text (.int (-3) t) []
  | name (h3 : text.cps.toList.take 3 = [50, 53, 55]) (t : Tok) : NamedIs text (.int ((v257 text).length : Nat) t) []
set_option maxRecDepth 100000 in
set_option maxHeartbeats 8000000 in
theorem named_k (w : World) {p : Program} {loose : List Str} {mean : ExcName → Option Value} {mg mb : Str → Option Value} (y : Addr) (oy : Obj) (ws : Array Value) (hoy : oy.data = .fields ws) (hcy : ws[2]? = some .none) (text : Str) (tk0 : Tok) (hlen : text.length ≤ 600) :
    CtrTG (some (.ref y)) PySem.Challenge.rw_pm0015_02.row.prog w (Mine.hd.heap_39 w.params) p loose mean mg mb 4 60 128 [.str text tk0] [(y, oy)] (NamedIs text) := by
  have hvl : (v257 text).length ≤ 600 := Nat.le_trans (v257_len text) hlen
  k_fill
  (k_dflt (refine' ctrTG_enter ?k6 ?k7 ?k9 ?kB ?_ ?c2 ?c3 ?c4 ?c5; (case k6 => k_is); (case k7 => k_is); (case k9 => exact fun _ => BindsTo.of_eq rfl); (case c5 => decide); (case kB => exact locs rfl); (case c2 => exact rfl); (case c3 => exact rfl); (case c4 => exact rfl); k_whole))
  intro dp un gd fr base g L h₁ s hd hu hg B F N XB TB X T hlt D
  (try dsimp only)
  (((try dsimp only); (with_reducible show wpAny _ _ _ _ _ _); k_fold))
  k_steps
  unfold Hold
  refine ctrG_useE (rest := []) (p257h_k w y oy ws hoy hcy text tk0 (Nat.le_trans hlen (by decide))) B F X T D N rfl rfl ?_ ?_ ?_ ?_ ?_ (fun _ _ h => h.1)
  · exact lt_up 3 hd rfl
  · exact lt_up 23 hu rfl
  · exact fun _ h => nomatch h
  · rintro v own' h' tk' ⟨h3, tv⟩ F1 N1 _
    clear F N
    (repeat k_unfold); (try dsimp only)
    (try k_fold)
    k_steps
    (try unfold Hold)
    (with_reducible rename Fr _ _ _ _ => F8)
    show LvT s (fsOf fr) g _ _ _
    exact Lv.T ⟨L, _, _, rfl, F8, News.nil, .name h3 _⟩
  · rintro v h' tk' FG ⟨_, U, r⟩
    clear F N hlt hg
    rcases r with ⟨e, t, cls, vs, rfl, R, rfl, rfl, h3⟩ | ⟨e, X', rfl, R, h⟩
    · (repeat k_unfold); (try dsimp only)
      k_fold
      k_steps
      (try unfold Hold)
      (with_reducible rename Fr _ _ _ _ => F8)
      (with_reducible rename KtsTurn _ _ _ => T8)
      exact ⟨_, L, _, _, rfl, T8, F8, News.nil, .code h3 _⟩
    · exact h.elim

theorem top_off_cnumber : True := by
  w_top off
  exact True.intro
-- part cnumber
/-- the number that is told of a reply -/
noncomputable def numOf (text : Str) : Int :=
  if text.cps.toList.take 3 = [50, 50, 57] then (match port229 (insideL text.cps.toList) with
    | none => -1
    | some y => match PySem.intText? (strOf y) with | none => -2 | some n => n)
  else if text.cps.toList.take 3 = [50, 53, 55] then ((v257 text).length : Nat) else -3
inductive NumIs (text : Str) : Value → List (Addr × Obj) → Prop
  | mk (t : Tok) : NumIs text (.int (numOf text) t) []
theorem NumIs.of {text : Str} {i : Int} (e : numOf text = i) (t : Tok) : NumIs text (.int i t) [] := e ▸ .mk t
theorem num_port {text : Str} {y : List Nat} {n : Int} (h : text.cps.toList.take 3 = [50, 50, 57]) (hp : port229 (insideL text.cps.toList) = some y) (hi : PySem.intText? (strOf y) = some n) : numOf text = n := by rw [numOf, if_pos h, hp]; dsimp only; rw [hi]
theorem num_form {text : Str} (h : text.cps.toList.take 3 = [50, 50, 57]) (hp : port229 (insideL text.cps.toList) = none) : numOf text = -1 := by rw [numOf, if_pos h, hp]
theorem num_bad {text : Str} {y : List Nat} (h : text.cps.toList.take 3 = [50, 50, 57]) (hp : port229 (insideL text.cps.toList) = some y) (hi : PySem.intText? (strOf y) = none) : numOf text = -2 := by rw [numOf, if_pos h, hp]; dsimp only; rw [hi]
theorem num_named {text : Str} {v : Value} {own' : List (Addr × Obj)} (h : ¬ text.cps.toList.take 3 = [50, 50, 57]) (hn : NamedIs text v own') : NumIs text v own' := by
  cases hn with
  | code h3 t => exact .of (by rw [numOf, if_neg h, if_neg h3]) t
  | name h3 t => exact .of (by rw [numOf, if_neg h, if_pos h3]) t
set_option maxRecDepth 100000 in
set_option maxHeartbeats 8000000 in
theorem number_k (w : World) {p : Program} {loose : List Str} {mean : ExcName → Option Value} {mg mb : Str → Option Value} (text : Str) (tk0 : Tok) (hlen : text.length ≤ 600) (hsg : ∀ c ∈ text.cps.toList, c < 16 ^ 8) :
    CtrT PySem.Challenge.rw_pm0015_02.row.prog w (Mine.hd.heap_39 w.params) p loose mean mg mb 6 100 135 [.str text tk0] [] (NumIs text) := by
  k_fill
  (k_dflt (refine' ctrT_enter ?k6 ?k7 ?k9 ?kB ?_ ?c2 ?c3 ?c4 ?c5; (case k6 => k_is); (case k7 => k_is); (case k9 => exact fun _ => BindsTo.of_eq rfl); (case c5 => decide); (case kB => exact locs rfl); (case c2 => exact rfl); (case c3 => exact rfl); (case c4 => exact rfl); k_whole))
  intro dp un gd fr base g L h₁ s hd hu hg B F N XB TB X T hlt D
  (try dsimp only)
  refine wpP_execs_cons (wpP_Try (wpP_execs_cons (wpP_Return (wpP_Subscript (wpP_Call ?_)))))
  k_fold
  k_steps
  unfold Hold
  refine wpP_callWith_fn2 ?_
  k_fold
  k_steps
  unfold Hold
  (with_reducible rename Fr _ _ _ _ => F2)
  (with_reducible rename News _ _ _ _ => N2)
  rename Addr => pr
  refine' ⟨fn_at (f := 100) X F2 ?k6, ?_⟩
  (case k6 => k_is)
  by_cases h229 : text.cps.toList.take 3 = [50, 50, 57]
  · refine ctrP_useE (rest := []) (p229_k w text tk0 pr (Str.ofString "host") _ _ hlen hsg) B F2 X T D N2 ?_ ?_ ?_ ?_ ?_ ?_ ?_
    · exact rfl
    · exact rfl
    · exact lt_up 3 hd rfl
    · exact lt_up 23 hu rfl
    · exact fun _ h => nomatch h
    · rintro v own' h' tk' ⟨h3, y, n, a, tn, hp, hi⟩ F1 N1 _
      clear F2 N2
      (repeat k_unfold); (try dsimp only)
      k_fold
      k_steps
      (try unfold Hold)
      exact Lv.T ⟨L, _, _, rfl, F1, News.nil, .of (num_port h229 hp hi) _⟩
    · rintro v h' tk' FG ⟨_, U, r⟩
      clear F2 N2 hlt hg
      rcases r with ⟨e, t, cls, vs, rfl, R, rfl, ⟨rfl, h3⟩ | ⟨rfl, h3, hf⟩⟩ | ⟨e, X', rfl, R, rfl, h3, y, hp, hi⟩
      · exact absurd h229 h3
      · (repeat k_unfold); (try dsimp only)
        k_fold
        k_steps
        (try unfold Hold)
        (with_reducible rename Fr _ _ _ _ => F8)
        (with_reducible rename KtsTurn _ _ _ => T8)
        exact ⟨_, L, _, _, rfl, T8, F8, News.nil, .of (num_form h229 hf) _⟩
      · (repeat k_unfold); (try dsimp only)
        k_fold
        k_steps
        (try unfold Hold)
        (with_reducible rename Fr _ _ _ _ => F8)
        (with_reducible rename KtsTurn _ _ _ => T8)
        exact ⟨_, L, _, _, rfl, T8, F8, News.nil, .of (num_bad h229 hp hi) _⟩
  · refine wpP_any (ctrG_useE (hv := none) (rest := []) (p229r_k w text tk0 pr _ h229 (by omega)) B F2 X T D N2 rfl rfl ?_ ?_ ?_ ?_ ?_ (fun _ _ h => h.1))
    · exact lt_up 3 hd rfl
    · exact lt_up 23 hu rfl
    · exact fun _ h => nomatch h
    · exact fun _ _ _ _ h => h.elim
    · rintro v h' tk' FG ⟨_, U, e, t, rfl, R, c⟩
      clear F2 N2 hlt hg
      dsimp only
      refine look_C R c B U ?_
      intro h2 R2 c2 U2
      refine' pass_C R2 c2 FG B U2 XB TB ?T1 ?_
      (case T1 => kts_test)
      intro h3 R3 c3 U3
      refine' pass_C R3 c3 FG B U3 XB TB ?T2 ?_
      (case T2 => kts_test)
      intro h4 R4 c4 U4
      refine' hit_C R4 c4 FG B U4 XB TB D ?T3 ?_ ?hE
      (case T3 => kts_test)
      (case hE => passes_own)
      intro h5 g5 oe ws T5 F5 N5 hoe hoc B5 X5 P5 D5
      (((try dsimp only); (with_reducible show wpAny _ _ _ _ _ _); k_fold))
      k_steps
      unfold Hold
      refine ctrTG_use (rest := []) (named_k w e oe ws hoe hoc text tk0 hlen) B5 F5 XB TB D5 N5 rfl rfl ?_ ?_ ?_ ?_
      · exact lt_up 5 hd rfl
      · exact lt_up 63 hu rfl
      · exact fun _ h => nomatch h
      · intro v own' h' tk' g6 hv T6 F6 N6 _
        dsimp only
        (try unfold Hold)
        show LvT s (fsOf fr) g _ _ _
        rw [List.append_nil] at N6
        exact ⟨_, L, _, _, rfl, T5.trans T6, F6, N6, num_named h229 hv⟩

theorem top_off_cnumbers : True := by
  w_top off
  exact True.intro
-- part cnumbers
section
theorem quoted_word (acc l : List Nat) : (quoted acc l).1.length ≤ acc.length + l.length ∧ ∀ c ∈ (quoted acc l).1, c ∈ acc ∨ c ∈ l := by
  fun_induction quoted acc l <;> simp_all
  all_goals (rename_i ih; exact ⟨by omega, fun c hc => by rcases ih.2 c hc with (h | h) | h <;> simp [h]⟩)
theorem bare_word (acc l : List Nat) : (bare acc l).1.length ≤ acc.length + l.length ∧ ∀ c ∈ (bare acc l).1, c ∈ acc ∨ c ∈ l := by
  fun_induction bare acc l <;> simp_all
  all_goals (rename_i ih; exact ⟨by omega, fun c hc => by rcases ih.2 c hc with (h | h) | h <;> simp [h]⟩)
theorem token_word (l : List Nat) : (token l).1.length ≤ l.length ∧ ∀ c ∈ (token l).1, c ∈ l := by
  fun_induction token l
  · simp
  · rename_i ih
    exact ⟨Nat.le_succ_of_le ih.1, fun c hc => List.mem_cons_of_mem _ (ih.2 c hc)⟩
  · rename_i r _
    have h := quoted_word [] r
    exact ⟨by simp only [List.length_cons, List.length_nil] at h ⊢; omega, fun c hc => by rcases h.2 c hc with h | h; cases h; exact List.mem_cons_of_mem _ h⟩
  · simp
  · rename_i d r' _ _
    have h := bare_word [d] r'
    exact ⟨by simp only [List.length_cons, List.length_nil] at h ⊢; omega, fun c hc => by rcases h.2 c hc with h | h <;> simp_all⟩
  · rename_i c r _ _ _
    have h := bare_word [c] r
    exact ⟨by simp only [List.length_cons, List.length_nil] at h ⊢; omega, fun c hc => by rcases h.2 c hc with h | h <;> simp_all⟩
/-- the numbers of the words up to the first empty one, and what is left behind it -/
noncomputable def numsT : Nat → List Nat → List Nat → List Int × List Nat
  | 0, _, l => ([], l)
  | k + 1, wd, l => if wd = [] then ([], l) else (numOf (strOf wd) :: (numsT k (token l).1 (token l).2).1, (numsT k (token l).1 (token l).2).2)
noncomputable def numsL (l : List Nat) : List Int × List Nat := numsT (l.length + 1) (token l).1 (token l).2
/-- what the loop over the words keeps -/
structure NumSt (l l' pre : List (Nat × Tok)) (wd : List Nat) (done : List Int) (fuel nr : Nat) : Prop where
  hpre : l = pre ++ l'
  h4 : nr + (l'.length + (if wd = [] then 0 else 1)) ≤ 602
  h5 : wd ≠ [] → l'.length < fuel
  h6 : numsL (l.map (·.1)) = (done ++ (numsT fuel wd (l'.map (·.1))).1, (numsT fuel wd (l'.map (·.1))).2)
  hwl : wd.length ≤ 600
  hws : ∀ c ∈ wd, c < 16 ^ 8
theorem NumSt.len {l l' pre : List (Nat × Tok)} {wd : List Nat} {done : List Int} {fuel nr : Nat} (h : NumSt l l' pre wd done fuel nr) : l'.length ≤ 5000 ∧ nr ≤ 5000 := by have := h.h4; omega
theorem NumSt.start {l l' pre : List (Nat × Tok)} (hl : l.length ≤ 600) (hsg : ∀ c ∈ l.map (·.1), c < 16 ^ 8) (hpre : l = pre ++ l') (hl' : l'.map (·.1) = (token (l.map (·.1))).2) : NumSt l l' pre (token (l.map (·.1))).1 [] (l.length + 1) 0 := by
  have hwl := token_word (l.map (·.1))
  have hsh := token_short (l.map (·.1))
  rw [← hl'] at hsh
  simp only [List.length_map] at hwl hsh
  refine ⟨hpre, ?_, fun _ => Nat.lt_succ_of_le hsh.1, ?_, Nat.le_trans hwl.1 hl, fun c hc => hsg c (hwl.2 c hc)⟩
  · split <;> omega
  · rw [numsL, hl', List.length_map]; rfl
theorem NumSt.step {l l' l₂ pre pre₂ : List (Nat × Tok)} {wd : List Nat} {done : List Int} {fuel nr : Nat} (h : NumSt l l' pre wd done fuel nr) (hl : l.length ≤ 600) (hsg : ∀ c ∈ l.map (·.1), c < 16 ^ 8) (hwd : wd ≠ []) (hpre₂ : l' = pre₂ ++ l₂) (hl₂ : l₂.map (·.1) = (token (l'.map (·.1))).2) :
    NumSt l l₂ (pre ++ pre₂) (token (l'.map (·.1))).1 (done ++ [numOf (strOf wd)]) (fuel - 1) (nr + 1) ∧ l₂.length + (if (token (l'.map (·.1))).1 = [] then 0 else 1) < l'.length + (if wd = [] then 0 else 1) := by
  obtain ⟨hpre, h4, h5, h6, -, -⟩ := h
  have h5 := h5 hwd
  obtain ⟨f, rfl⟩ : ∃ f, fuel = f + 1 := ⟨fuel - 1, by omega⟩
  have hsh := token_short (l'.map (·.1))
  have hwl2 := token_word (l'.map (·.1))
  have hll : l'.length ≤ l.length := by rw [hpre, List.length_append]; exact Nat.le_add_left ..
  rw [← hl₂] at hsh
  simp only [List.length_map] at hsh hwl2
  rw [if_neg hwd] at h4 ⊢
  rw [numsT, if_neg hwd] at h6
  have hk : l₂.length + (if (token (l'.map (·.1))).1 = [] then 0 else 1) < l'.length + 1 := by
    split
    · omega
    · rename_i hne
      have := hsh.2 hne
      omega
  refine ⟨⟨by rw [hpre, hpre₂, List.append_assoc], by omega, fun hne => ?_, ?_, Nat.le_trans hwl2.1 (Nat.le_trans hll hl), fun c hc => hsg c ?_⟩, hk⟩
  · have := hsh.2 hne
    omega
  · rw [h6, ← hl₂, List.append_assoc]; rfl
  · rw [hpre, List.map_append]; exact List.mem_append_right _ (hwl2.2 c hc)
theorem NumSt.fin {l l' pre : List (Nat × Tok)} {wd : List Nat} {done : List Int} {fuel nr : Nat} (h : NumSt l l' pre wd done fuel nr) (hwd : wd = []) : (numsL (l.map (·.1))).1 = done ∧ l'.map (·.1) = (numsL (l.map (·.1))).2 := by
  subst hwd
  rw [h.h6]
  cases fuel <;> simp [numsT]
inductive NumsPost (lx : Addr) (w : World) (z : Lx) (ln : Int) (npb : Nat) (l : List (Nat × Tok)) : Value → List (Addr × Obj) → Prop
  | mk (R : Addr) (refs : List Value) (cap : Nat) (l' pre : List (Nat × Tok)) (n' : Nat) (t' : Tok) (hra : IntsAre refs (numsL (l.map (·.1))).1) (hpre : l = pre ++ l') (hl' : l'.map (·.1) = (numsL (l.map (·.1))).2) (h1 : @LT.lt Nat _ z.pb R) :
    NumsPost lx w z ln npb l (.ref R) ((R, W.listOf refs.toArray cap) :: z.own lx (z.od w (ln + nls (pre.map (·.1))) t') (W.listOf #[] npb) l' n')
inductive numInv (lx : Addr) (w : World) (z : Lx) (ln : Int) (npb : Nat) (l : List (Nat × Tok)) (A : Addr) (m : Str → Option Value) : Nat → List (Addr × Obj) → Prop
  | mk (a1 : m (Str.ofString "lexer") = some (.ref z.x)) (a2 : m (Str.ofString "numbers") = some (.ref A)) (l' pre : List (Nat × Tok)) (n' : Nat) (t' : Tok) (wd : List Nat) (u : Tok) (refs : List Value) (done : List Int) (fuel cap : Nat)
    (h2 : m (Str.ofString "word") = some (.str (strOf wd) u)) (h : NumSt l l' pre wd done fuel refs.length) (hra : IntsAre refs done) :
    numInv lx w z ln npb l A m (l'.length + (if wd = [] then 0 else 1)) (z.own lx (z.od w (ln + nls (pre.map (·.1))) t') (W.listOf #[] npb) l' n' ++ [(A, W.listOf refs.toArray cap)])
inductive NumLoop (lx : Addr) (w : World) (z : Lx) (ln : Int) (npb : Nat) (l : List (Nat × Tok)) (A : Addr) (fs : List Addr) (g : Heap) (L : Addr) (s : Shared) (k : Nat) : Shared → Prop
  | mk (g' h : Heap) (tk : Nat) (m : Str → Option Value) (news : List (Addr × Obj)) (T : KtsTurn fs g g') (F : Fr g' L h m) (N : News g' L h news) (i : numInv lx w z ln npb l A m k news) : NumLoop lx w z ln npb l A fs g L s k { s with heap := h, toks := tk }
theorem app_last {prog : Program} {w : World} {A₀ : Around} {E : Value → Shared → Prop} {s : Shared} {g : Heap} {L A : Addr} {m : Str → Option Value} {v : Value} {refs : List Value} {cap : Nat} {front : List (Addr × Obj)} {Q : Value → Shared → Prop}
    (F : Fr g L s.heap m) (N : News g L s.heap (front ++ [(A, W.listOf refs.toArray cap)])) (hfr : ∀ q ∈ front, q.1 ≠ A) (hsz : refs.length ≤ sizeLine)
    (h : ∀ h', Fr g L h' m → News g L h' (front ++ [(A, W.listOf (refs ++ [v]).toArray (cap + 1))]) → Q .none { s with heap := h' }) : wpAny (model prog w) A₀ (call (.builtin "list.append") [.ref A, v]) Q E s := by
  have zA := N (A, W.listOf refs.toArray cap) (List.mem_append_right _ (List.mem_cons_self ..))
  refine append_at (hsz := by rw [List.size_toArray]; exact hsz) zA.1 fun h' hs hD => ?_
  refine h h' (F.change hs zA.2.1 zA.2.2) fun q hq => ?_
  rcases List.mem_append.mp hq with hq | hq
  · exact ⟨hs.extBut _ _ (hfr q hq) (N q (List.mem_append_left _ hq)).1, (N q (List.mem_append_left _ hq)).2⟩
  · rw [List.mem_singleton.mp hq]
    exact ⟨by rw [hD]; simp, zA.2⟩
theorem own_apart {z : Lx} {lx A : Addr} {od opb : Obj} {l : List (Nat × Tok)} {n : Nat} (nd : Ord z.S z.cl z.dy z.y z.F z.q.c z.dx z.x z.pb) (h : @LT.lt Nat _ z.pb A) : ∀ q ∈ z.own lx od opb l n, q.1 ≠ A := fun q hq e =>
  Lx.part nd (.inl h) (e ▸ List.mem_map_of_mem (f := fun x : Addr × Obj => x.1) hq)
theorem one_apart {z : Lx} {lx A : Addr} {od opb oA : Obj} {l : List (Nat × Tok)} {n : Nat} (nd : Ord z.S z.cl z.dy z.y z.F z.q.c z.dx z.x z.pb) (h : @LT.lt Nat _ z.pb A) : ∀ q ∈ [((A : Addr), oA)], q.1 ∉ (z.own lx od opb l n).map (·.1) := fun q hq => by
  rw [List.mem_singleton.mp hq]; exact Lx.part nd (.inl h)
theorem word_ne {wd : List Nat} (h : (strOf wd != Str.ofString "") = true) : wd ≠ [] := by
  rintro rfl
  exact absurd h (by decide)
theorem nls_up (ln : Int) (pre e : List (Nat × Tok)) : ln + nls (pre.map (·.1)) + nls (e.map (·.1)) = ln + nls ((pre ++ e).map (·.1)) := by rw [List.map_append, nls_app, Int.add_assoc]
theorem ints_snoc {vs : List Value} {ns : List Int} (h : IntsAre vs ns) (n : Int) (t : Tok) : IntsAre (vs ++ [.int n t]) (ns ++ [n]) := by
  induction h with
  | nil => exact .cons n t .nil
  | cons m u _ ih => exact .cons m u ih
theorem str_ne {wd : List Nat} (h : (strOf wd != Str.ofString "") = false) : wd = [] := by
  cases wd with
  | nil => rfl
  | cons c r =>
    have := bne_eq_false_iff_eq.mp h
    have := congrArg Str.length this
    rw [strOf_len] at this
    exact absurd this (by simp [show (Str.ofString "").length = 0 from by decide])
theorem below_turn {A : Around} {base g g' : Heap} {outer : List Env} (B : Below A base outer g) (T : KtsTurn (fsOf outer) g g') : Below A base outer g' :=
  ⟨B.stack, fun b o e => T.other b o (B.stays b o e) (fun hm => by rw [(B.frames.mem hm).1] at e; cases e), B.frames.of_keeps fun b o e _ => by
    obtain ⟨sl, hs⟩ := T.up e
    exact ⟨_, hs, rfl⟩⟩
noncomputable def NumEnd (P : Prop) : Prop := P
theorem wpP_wrap {α : Type} {M : Model} {A : Around} {E : Value → Shared → Prop} {s : Shared} {t : Sem α} {Q : α → Shared → Prop} (h : wpAny M A t (fun a s => NumEnd (Q a s)) E s) : wpP M A t Q E s := wpP_any h
local macro_rules | `(tactic| walk_at $s:str) => if ["NumEnd", "call builtin:list.append"].contains s.getString then `(tactic| refine Hold.mk ?_) else Lean.Macro.throwUnsupported
local macro_rules | `(tactic| walk_at "loadName") => `(tactic| (k_here; k_dflt (refine' ldn ?k1 ?k2 ?_; (case k1 => k_asm); (case k2 => (first | exact (Eq.refl (some _)) | with_reducible assumption | assumption)); k_whole)))
set_option maxRecDepth 100000 in
set_option maxHeartbeats 8000000 in
theorem numbers_k (w : World) {p : Program} {loose : List Str} {mean : ExcName → Option Value} {mg mb : Str → Option Value} (z : Lx) (hz : z.Ok PySem.Challenge.rw_pm0015_02.row.prog w (Mine.hd.heap_39 w.params) p loose mean mg mb) (ln : Int) (tt : Tok) (npb : Nat)
    (l : List (Nat × Tok)) (n : Nat) (hl : l.length ≤ 600) (hsg : ∀ c ∈ l.map (·.1), c < 16 ^ 8) :
    CtrT PySem.Challenge.rw_pm0015_02.row.prog w (Mine.hd.heap_39 w.params) p loose mean mg mb 10 220 142 [.ref z.x] (z.own 52 (z.od w ln tt) (W.listOf #[] npb) l n)
      (NumsPost 52 w z ln npb l) := by
  k_fill
  (k_dflt (refine' ctrT_enter ?k6 ?k7 ?k9 ?kB ?_ ?c2 ?c3 ?c4 ?c5; (case k6 => k_is); (case k7 => k_is); (case k9 => exact fun _ => BindsTo.of_eq rfl); (case c5 => decide); (case kB => exact locs rfl); (case c2 => exact rfl); (case c3 => exact rfl); (case c4 => exact rfl); k_whole))
  intro dp un gd fr base g L h₁ s hd hu hg B F N XB TB X T hlt D
  clear hg hlt
  (try dsimp only)
  refine wpP_split 2 ?_
  dsimp only [List.take, List.drop]
  (((try dsimp only); (with_reducible show wpAny _ _ _ _ _ _); k_fold))
  k_steps
  unfold Hold
  (with_reducible rename Fr _ _ _ _ => F8)
  (with_reducible rename News _ _ _ _ => N8)
  (with_reducible rename ∀ p : Addr × Obj, p ∈ _ → p.1 < _ => lA)
  first
    | (rename_i A ; have hAx : @LT.lt Nat _ z.pb A := lA (z.pb, W.listOf #[] npb) Lx.mem_pb; clear hAx)
    | (rename_i A _; have hAx : @LT.lt Nat _ z.pb A := lA (z.pb, W.listOf #[] npb) Lx.mem_pb; clear hAx)
    | (rename_i A _ _; have hAx : @LT.lt Nat _ z.pb A := lA (z.pb, W.listOf #[] npb) Lx.mem_pb; clear hAx)
    | (rename_i A _ _ _; have hAx : @LT.lt Nat _ z.pb A := lA (z.pb, W.listOf #[] npb) Lx.mem_pb; clear hAx)
    | (rename_i A _ _ _ _; have hAx : @LT.lt Nat _ z.pb A := lA (z.pb, W.listOf #[] npb) Lx.mem_pb; clear hAx)
    | (rename_i A _ _ _ _ _; have hAx : @LT.lt Nat _ z.pb A := lA (z.pb, W.listOf #[] npb) Lx.mem_pb; clear hAx)
    | (rename_i A _ _ _ _ _ _; have hAx : @LT.lt Nat _ z.pb A := lA (z.pb, W.listOf #[] npb) Lx.mem_pb; clear hAx)
    | (rename_i A _ _ _ _ _ _ _; have hAx : @LT.lt Nat _ z.pb A := lA (z.pb, W.listOf #[] npb) Lx.mem_pb; clear hAx)
    | (rename_i A _ _ _ _ _ _ _ _; have hAx : @LT.lt Nat _ z.pb A := lA (z.pb, W.listOf #[] npb) Lx.mem_pb; clear hAx)
  have hzA : @LT.lt Nat _ z.pb A := lA (z.pb, W.listOf #[] npb) Lx.mem_pb
  clear lA
  dsimp only [List.append_nil]
  refine ctr_use (own := z.own 52 (z.od w ln tt) (W.listOf #[] npb) l n) (rest := [(A, W.listOf #[] 0)]) (token_k w z hz ln tt npb l n (Nat.le_trans hl (by decide))) B F8 X T D (news_swap (a := [_]) N8) rfl rfl (lt_up 9 hd rfl) (lt_up 103 hu rfl) (one_apart hz.nd hzA) ?_
  rintro v own' h7 tk7 ⟨l', n', t', u, pre, hpre, hl'⟩ F9 N9 _
  clear F8 N8
  dsimp only
  (((try dsimp only); (with_reducible show wpAny _ _ _ _ _ _); k_fold))
  k_steps
  unfold Hold
  (with_reducible rename Fr _ _ _ _ => F10)
  (with_reducible rename News _ _ _ _ => N10)
  refine wpP_execs_cons (wpP_While (codeP_whileLoop (fun k s' => NumLoop 52 w z ln npb l A (fsOf fr) g L s k s') ?turn (l'.length + (if (token (l.map (·.1))).1 = [] then 0 else 1)) (.mk g _ _ _ _ .refl F10 N10 (.mk (by rfl) (by rfl) l' pre n' t' (token (l.map (·.1))).1 _ [] [] (l.length + 1) 0 (by rfl) (.start hl hsg hpre hl') .nil))))
  (case turn =>
    clear F10 N10 hpre hl'
    rintro k s' ⟨g', h, tk, m, news, TT, F, N, i⟩
    obtain ⟨hml, hmn, l', pre, n', t', wd, u, refs, done, fuel, cap, hmw, hst, hra⟩ := i
    have B' := below_turn B TT
    have X' := XB.keeps B'.stays
    have T' := TB.keeps B'.stays
    have D' := D.turn TT
    clear B X T D
    (((try dsimp only); (with_reducible show wpAny _ _ _ _ _ _); k_fold))
    k_steps
    · unfold Hold
      rename (_ != _) = true => hwd
      have hwd' := word_ne hwd
      refine wpP_execs_cons (wpP_Expr (wpP_MethodCall ?_))
      k_fold
      k_steps
      unfold Hold
      refine wpP_callWith_builtin1 (wpP_Call ?_)
      k_fold
      k_steps
      unfold Hold
      refine wpP_callWith_fn1 ?_
      k_fold
      k_steps
      unfold Hold
      (with_reducible rename Fr _ _ _ _ => F12)
      (with_reducible rename News _ _ _ _ => N12)
      refine' ⟨fn_at (f := 135) X' F12 ?k6, ?_⟩
      (case k6 => k_is)
      refine ctrT_use (own := []) (rest := _) (number_k w (strOf wd) _ (by rw [strOf_len]; exact hst.hwl) (by simpa [strOf] using hst.hws)) B' F12 XB TB D' N12 rfl rfl (lt_up 7 hd rfl) (lt_up 103 hu rfl) (fun _ _ h => nomatch h) ?_
      rintro v own' h8 tk8 g8 ⟨tv⟩ T8 F13 N13 _
      rw [List.nil_append] at N13
      clear F12 N12
      have B8 := below_turn B' T8
      have X8 := XB.keeps B8.stays
      have P8 := TB.keeps B8.stays
      have D8 := D'.turn T8
      clear B' X' T' D'
      dsimp only
      refine app_last F13 N13 (own_apart hz.nd hzA) (Nat.le_trans hst.len.2 (by rw [PySem.sizeLine_eq]; decide)) ?_
      intro h9 F14 N14
      clear F13 N13
      refine wpP_wrap ?_
      (((try dsimp only); (with_reducible show wpAny _ _ _ _ _ _); k_fold))
      k_steps
      unfold Hold
      dsimp only [List.append_nil]
      (with_reducible rename Fr _ _ _ _ => F15)
      (with_reducible rename News _ _ _ _ => N15)
      refine ctr_use (own := z.own 52 (z.od w (ln + nls (pre.map (·.1))) t') (W.listOf #[] npb) l' n') (rest := [(A, W.listOf (refs ++ [Value.int (numOf (strOf wd)) tv]).toArray (cap + 1))]) (token_k w z hz _ t' npb l' n' hst.len.1) B8 F15 X8 P8 D8 N15 rfl rfl (lt_up 9 hd rfl) (lt_up 103 hu rfl) (one_apart hz.nd hzA) ?_
      rintro v own' h16 tk16 ⟨l₂, n₂, t₂, u₂, pre₂, hpre₂, hl₂⟩ F16 N16 _
      clear F15 N15
      rw [nls_up] at N16
      dsimp only
      (((try dsimp only); (with_reducible show wpAny _ _ _ _ _ _); k_fold))
      k_steps
      (try unfold Hold)
      unfold NumEnd
      (try dsimp only)
      (with_reducible rename Fr _ _ _ _ => F17)
      (with_reducible rename News _ _ _ _ => N17)
      obtain ⟨hst', hk⟩ := hst.step hl hsg hwd' hpre₂ hl₂
      exact ⟨l₂.length + (if (token (l'.map (·.1))).1 = [] then 0 else 1), hk, .mk g8 _ _ _ _ (TT.trans T8) F17 N17 (.mk (by exact hml) (by exact hmn) l₂ (pre ++ pre₂) n₂ t₂ (token (l'.map (·.1))).1 _ (refs ++ [Value.int (numOf (strOf wd)) tv]) (done ++ [numOf (strOf wd)]) (fuel - 1) (cap + 1) (by rfl) (by rw [List.length_append, List.length_singleton]; exact hst') (ints_snoc hra _ _))⟩
    · unfold Hold
      rename (_ != _) = false => hwd
      obtain ⟨h1, h2⟩ := hst.fin (str_ne hwd)
      refine wpP_any ?_
      k_fold
      k_steps
      show LvT s (fsOf fr) g _ _ _
      exact ⟨g', L, _, _, rfl, TT, F, news_swap N, .mk A refs cap l' pre n' t' (h1 ▸ hra) hst.hpre h2 hzA⟩)

end
theorem top_off_chalved : True := by
  w_top off
  exact True.intro
-- part chalved
/-- n quotes -/
noncomputable def qs (n : Nat) : Str := strOf (List.replicate n 34)
inductive HalvedIs (P a b : Addr) (c : Addr) (oc : Obj) (n : Nat) : Value → List (Addr × Obj) → Prop
  | mk (R : Addr) (t1 t2 : Tok) (cap : Nat) : HalvedIs P a b c oc n (.ref R) [(R, W.listOf #[.int ((n / 2 : Nat) : Int) t1, .int ((n % 2 : Nat) : Int) t2] cap), (P, tabO a b c), (c, oc)]
theorem half_pack {P a b c R : Addr} {oc : Obj} {n : Nat} {g h : Heap} {L : Addr} {mm : Str → Option Value} {s : Shared} {tk : Nat} {i j : Int} {t1 t2 : Tok} (F : Fr g L h mm) (N : News g L h [(R, W.listOf #[.int i t1, .int j t2] 0), (P, tabO a b c), (c, oc)])
    (hi : i = ((n / 2 : Nat) : Int)) (hj : j = ((n % 2 : Nat) : Int)) : Lv s g (HalvedIs P a b c oc n) (.ref R) { s with heap := h, toks := tk } := by
  subst hi hj
  exact ⟨L, _, _, rfl, F, N, .mk R t1 t2 0⟩
theorem half_told : ∀ n < 16, Txt.count (v257 (Str.ofString "257 \"" ++ qs n ++ Str.ofString "x")) (Str.ofString "\"") = ((n / 2 : Nat) : Int) ∧ 1 - Txt.count (v257 (Str.ofString "257 \"" ++ qs n ++ Str.ofString "x")) (Str.ofString "x") = ((n % 2 : Nat) : Int) ∧
    (Str.ofString "257 \"" ++ qs n ++ Str.ofString "x" : Str).cps.toList.take 3 = [50, 53, 55] := by decide +kernel
theorem token_bs : ∀ n < 16, 0 < n → (token (List.replicate n 92 ++ [32, 120])).1 = List.replicate (n / 2) 92 ++ (if n % 2 = 0 then [] else [32, 120]) := by decide +kernel
theorem half_text : ∀ n < 16, (Txt.mul (Str.ofString "\\") ((n : Nat) : Int) ++ Str.ofString " x" : Str).length ≤ 40 ∧ (Txt.mul (Str.ofString "\\") ((n : Nat) : Int) ++ Str.ofString " x" : Str).cps.toList = List.replicate n 92 ++ [32, 120] := by decide +kernel
theorem half_read : ∀ n < 16, Txt.count (strOf (List.replicate (n / 2) 92 ++ (if n % 2 = 0 then [] else [32, 120]))) (Str.ofString "\\") = ((n / 2 : Nat) : Int) ∧
    Txt.count (strOf (List.replicate (n / 2) 92 ++ (if n % 2 = 0 then [] else [32, 120]))) (Str.ofString "x") = ((n % 2 : Nat) : Int) ∧ (strOf (List.replicate (n / 2) 92 ++ (if n % 2 = 0 then [] else [32, 120]))).length ≤ 40 := by decide +kernel
set_option maxRecDepth 100000 in
set_option maxHeartbeats 8000000 in
theorem halved_k (w : World) {p : Program} {loose : List Str} {mean : ExcName → Option Value} {mg mb : Str → Option Value} (c : Addr) (oc : Obj) (vs : Array Value) (t : Tok) (hPc : (116 : Addr) < c) (e1 : oc.data = .fields vs) (e2 : vs[1]? = some (.str (Str.ofString "_law_lexer.<locals>.<lambda>") t))
    (n : Nat) (h0 : 0 < n) (hn : n < 16) (tq : Tok) (turn : Int) (tt : Tok) :
    Ctr PySem.Challenge.rw_pm0015_02.row.prog w (Mine.hd.heap_39 w.params) p loose mean mg mb 12 200 149 [.str (qs n) tq, .int turn tt] [(116, tabO 102 18 c), (c, oc)] (HalvedIs 116 102 18 c oc n) noErr noErrN := by
  have hql : (qs n).length = n := by rw [qs, strOf_len, List.length_replicate]
  k_fill
  (k_dflt (refine' ctr_enter ?k6 ?k7 ?k9 ?kB ?_ ?c2 ?c3 ?c4 ?c5; (case k6 => k_is); (case k7 => k_is); (case k9 => exact fun _ => BindsTo.of_eq rfl); (case c5 => decide); (case kB => exact locs rfl); (case c2 => exact rfl); (case c3 => exact rfl); (case c4 => exact rfl); k_whole))
  intro dp un gd fr base g L h₁ s hd hu hg B F N X T hlt D
  clear hg hlt
  (try dsimp only)
  (((try dsimp only); (with_reducible show wpAny _ _ _ _ _ _); k_fold))
  k_steps
  · unfold Hold
    rename turn.fmod 2 = 0 => ht
    have hlt2 : (Str.ofString "257 \"" ++ qs n ++ Str.ofString "x" : Str).length ≤ 40 := by
      rw [Str.length_append, Str.length_append, hql, show (Str.ofString "257 \"").length = 5 from by decide, show (Str.ofString "x").length = 1 from by decide]; omega
    refine ctr_useE (own := []) (rest := [(116, tabO 102 18 c), (c, oc)]) (p257_k w (Str.ofString "257 \"" ++ qs n ++ Str.ofString "x") _ (Nat.le_trans hlt2 (by decide))) B F X T D N rfl rfl (lt_up 3 hd rfl) (lt_up 23 hu rfl) (fun _ _ h => nomatch h) ?_ ?_
    · rintro v own' h' tk' ⟨h3, tv⟩ F1 N1 _
      have hvl := v257_len (Str.ofString "257 \"" ++ qs n ++ Str.ofString "x")
      obtain ⟨hc1, hc2, -⟩ := half_told n hn
      generalize v257 (Str.ofString "257 \"" ++ qs n ++ Str.ofString "x") = told at hvl hc1 hc2 ⊢
      simp only [List.nil_append] at N1
      (((try dsimp only); (with_reducible show wpAny _ _ _ _ _ _); k_fold))
      k_steps
      (try unfold Hold)
      (with_reducible rename Fr _ _ _ _ => F2)
      (with_reducible rename News _ _ _ _ => N2)
      exact half_pack F2 N2 hc1 hc2
    · rintro v h' tk' FG ⟨_, U, r⟩
      rcases r with ⟨e, t, cls, vs, rfl, R, rfl, rfl, h3⟩ | ⟨e, X', rfl, R, h⟩
      · exact absurd (half_told n hn).2.2 h3
      · exact h.elim
  · unfold Hold
    rw [hql]
    obtain ⟨hl1, hcp⟩ := half_text n hn
    obtain ⟨hc1, hc2, hl2⟩ := half_read n hn
    rw [← token_bs n hn h0, ← hcp] at hc1 hc2 hl2
    generalize Txt.mul (Str.ofString "\\") ((n : Nat) : Int) ++ Str.ofString " x" = text at hl1 hc1 hc2 hl2 ⊢
    refine ctr_use (own := [(116, tabO 102 18 c), (c, oc)]) (rest := []) (lexer2_k w [(116, tabO 102 18 c), (c, oc)] (.inr ⟨c, oc, vs, t, hPc, rfl, e1, e2⟩) text _ (Nat.le_trans hl1 (by decide))) B F X T D N rfl rfl (lt_up 7 hd rfl) (lt_up 93 hu rfl) (fun _ h => nomatch h) ?_
    rintro v own' h2 tk2 ⟨z, zt, l, n2, hlt2, hPS, hPl, hPc2, hz, hsame⟩ F1 N1 _
    have hs : z.q.c = c ∧ z.oc = oc := by
      rcases hsame (c, oc) (List.mem_cons_of_mem _ (List.mem_cons_self ..)) with h | h
      · exact absurd (show @Eq Nat c 116 from h) (Nat.ne_of_gt hPc)
      · exact ⟨(congrArg Prod.fst h).symm, (congrArg Prod.snd h).symm⟩
    replace N1 : News g L h2 (z.own 52 (z.od w 1 zt) (W.listOf #[] 0) l n2 ++ [(116, tabO 102 18 z.q.c)]) := news_swap (a := [(116, tabO 102 18 z.q.c)]) (news_fst N1)
    clear N F hsame
    have hll : l.length ≤ 5000 := by
      rw [← List.length_map (f := fun x : Nat × Tok => x.1), hlt2, ← len_toList]
      exact Nat.le_trans hl1 (by decide)
    dsimp only
    (((try dsimp only); (with_reducible show wpAny _ _ _ _ _ _); k_fold))
    k_steps
    unfold Hold
    (try dsimp only [List.append_nil])
    (with_reducible rename Fr _ _ _ _ => F2)
    (with_reducible rename News _ _ _ _ => N2)
    refine ctr_use (own := z.own 52 (z.od w 1 zt) (W.listOf #[] 0) l n2) (rest := [(116, tabO 102 18 z.q.c)]) (token_k w z hz 1 zt 0 l n2 hll) B F2 X T D N2 rfl rfl (lt_up 9 hd rfl) (lt_up 103 hu rfl) (fun q hq => by rw [List.mem_singleton.mp hq]; exact Lx.part hz.nd (.inr ⟨hPS, hPl, hPc2⟩)) ?_
    rintro v own' h3 tk3 ⟨l', n', t', u, pre, hpre, hl'⟩ F3 N3 _
    rw [hlt2]
    clear hl' hpre F2 N2
    generalize strOf (token text.cps.toList).1 = told at hc1 hc2 hl2 ⊢
    replace N3 := news_pick (M := [(116, tabO 102 18 z.q.c), (z.q.c, z.oc)]) N3 [9, 5] rfl
    rw [hs.1, hs.2] at N3
    dsimp only
    (((try dsimp only); (with_reducible show wpAny _ _ _ _ _ _); k_fold))
    k_steps
    (try unfold Hold)
    (with_reducible rename Fr _ _ _ _ => F4)
    (with_reducible rename News _ _ _ _ => N4)
    exact half_pack F4 N4 hc1 hc2

theorem top_off_crounds : True := by
  w_top off
  exact True.intro
-- part crounds
section
local macro_rules | `(tactic| walk_at $s:str) => if ["compareOp NotEq ref ref", "call builtin:list.append", "exec For Name Name cons nil", "subscriptTail Name UnaryOp ref int", "RMid"].contains s.getString then `(tactic| refine Hold.mk ?_) else Lean.Macro.throwUnsupported
local macro_rules | `(tactic| walk_at "exec If") => `(tactic| ((with_reducible show wpAny _ _ (exec (Stmt.If (Expr.Compare _ _ [Expr.Constant (Const.str (Str.ofString "")) _ _] _) _ _ _) _) _ _ _); refine Hold.mk ?_))
/-- a word that waits: n quotes and a line end, or nothing -/
noncomputable def wq (n : Nat) : Str := if n = 0 then Str.ofString "" else qs n ++ Str.ofString "\n"
/-- the words that wait -/
noncomputable def QAre (vs : List Value) (q : List Nat) : Prop := ∃ ts : List Tok, ts.length = q.length ∧ vs = List.zipWith (fun n t => Value.str (wq n) t) q ts
theorem QAre.nil : QAre [] [] := ⟨[], rfl, rfl⟩
theorem QAre.len {vs : List Value} {q : List Nat} (h : QAre vs q) : vs.length = q.length := by
  obtain ⟨ts, h1, rfl⟩ := h
  rw [List.length_zipWith, h1, Nat.min_self]
theorem QAre.snoc {vs : List Value} {q : List Nat} (h : QAre vs q) (n : Nat) (t : Tok) : QAre (vs ++ [.str (wq n) t]) (q ++ [n]) := by
  obtain ⟨ts, h1, rfl⟩ := h
  refine ⟨ts ++ [t], by simp [h1], ?_⟩
  rw [List.zipWith_append h1.symm]; rfl
theorem QAre.pop {vs : List Value} {n : Nat} {q : List Nat} (h : QAre vs (n :: q)) : ∃ t vs', vs = .str (wq n) t :: vs' ∧ QAre vs' q := by
  obtain ⟨ts, h1, rfl⟩ := h
  cases ts with
  | nil => cases h1
  | cons t ts => exact ⟨t, _, rfl, ts, Nat.succ.inj h1, rfl⟩
theorem wq_mul : ∀ n < 16, 0 < n → (Txt.mul (Str.ofString "\"") ((n : Nat) : Int) ++ Str.ofString "\n" : Str) = wq n := by decide +kernel
theorem ints_get {vs : List Value} {ns : List Int} (h : IntsAre vs ns) : ∀ {i : Nat} {v : Value}, vs[i]? = some v → ∃ j t, v = .int j t ∧ ns[i]? = some j := by
  induction h with
  | nil => intro i v e; cases e
  | cons n t _ ih =>
    intro i v e
    cases i with
    | zero => cases e; exact ⟨n, t, rfl, rfl⟩
    | succ i => exact ih e
noncomputable def posQ (ns : List Int) : List Nat := (ns.filter (0 < ·)).map Int.toNat
theorem posQ_snoc (ns : List Int) (i : Nat) {j : Int} (h : ns[i]? = some j) : posQ (ns.take (i + 1)) = if 0 < j then posQ (ns.take i) ++ [j.toNat] else posQ (ns.take i) := by
  unfold posQ
  rw [List.take_add_one, h]
  by_cases h0 : 0 < j <;> simp [h0]
theorem posQ_len (ns : List Int) : (posQ ns).length ≤ ns.length := by
  unfold posQ; rw [List.length_map]; exact List.length_filter_le ..
/-- the rounds: what is told of the words that wait, with so many steps -/
noncomputable def runR : Nat → List Nat → List (List Int) → List Int → List (List Int) × List Int
  | 0, _, d, c => (d, c)
  | _ + 1, [], d, c => (d, c)
  | k + 1, n :: q, d, c => if n = 0 then (if c = [] then runR k q d c else runR k (q ++ [0]) (d ++ [c]) []) else
      if n / 2 = 0 then runR k q d (c ++ [((n % 2 : Nat) : Int)]) else runR k (q ++ [n / 2]) d (c ++ [((n % 2 : Nat) : Int)])
/-- so many steps are enough -/
noncomputable def okR : Nat → List Nat → List Int → Prop
  | _, [], _ => True
  | 0, _ :: _, _ => False
  | k + 1, n :: q, c => if n = 0 then (if c = [] then okR k q c else okR k (q ++ [0]) []) else
      if n / 2 = 0 then okR k q (c ++ [((n % 2 : Nat) : Int)]) else okR k (q ++ [n / 2]) (c ++ [((n % 2 : Nat) : Int)])
theorem runR_cons {k n : Nat} {q : List Nat} {d : List (List Int)} {c : List Int} : runR (k + 1) (n :: q) d c = if n = 0 then (if c = [] then runR k q d c else runR k (q ++ [0]) (d ++ [c]) []) else
      if n / 2 = 0 then runR k q d (c ++ [((n % 2 : Nat) : Int)]) else runR k (q ++ [n / 2]) d (c ++ [((n % 2 : Nat) : Int)]) := rfl
theorem okR_cons {k n : Nat} {q : List Nat} {c : List Int} : okR (k + 1) (n :: q) c = if n = 0 then (if c = [] then okR k q c else okR k (q ++ [0]) []) else
      if n / 2 = 0 then okR k q (c ++ [((n % 2 : Nat) : Int)]) else okR k (q ++ [n / 2]) (c ++ [((n % 2 : Nat) : Int)]) := rfl
open PySem.W in
noncomputable def datI (c : List Int) : Dat := .list (c.map .int)
/-- what the rounds keep -/
structure RSt (k : Nat) (Q : List Nat) (done : List (List Int)) (cur : List Int) (fin : List (List Int) × List Int) : Prop where
  ok : okR k Q cur
  run : runR k Q done cur = fin
  hQ : Q.length ≤ 6
  h16 : ∀ c ∈ Q, c < 16
  hd : done.length + k ≤ 60
  hc : cur.length + k ≤ 60
section
variable {k c : Nat} {q : List Nat} {done : List (List Int)} {cur : List Int} {fin : List (List Int) × List Int}
theorem RSt.start {ns : List Int} (hnl : ns.length ≤ 5) (hn15 : ∀ i ∈ ns, i < 16) (hk : k ≤ 50) (hok : okR k (posQ ns ++ [0]) []) : RSt k (posQ ns ++ [0]) [] [] (runR k (posQ ns ++ [0]) [] []) := by
  have := posQ_len ns
  refine ⟨hok, rfl, by rw [List.length_append, List.length_singleton]; omega, fun c hc => ?_, by rw [List.length_nil]; omega, by rw [List.length_nil]; omega⟩
  rcases List.mem_append.mp hc with h | h
  · obtain ⟨i, hi1, rfl⟩ := List.mem_map.mp h
    have := hn15 i (List.mem_filter.mp hi1).1
    omega
  · rw [List.mem_singleton.mp h]; decide
theorem RSt.pos (h : RSt k (c :: q) done cur fin) : ∃ k', k = k' + 1 := by
  cases k with
  | zero => exact h.ok.elim
  | succ k => exact ⟨k, rfl⟩
theorem RSt.fine (h : RSt k [] done cur fin) : fin = (done, cur) := by
  rw [← h.run]; cases k <;> rfl
theorem RSt.c16 (h : RSt k (c :: q) done cur fin) : c < 16 := h.h16 c (List.mem_cons_self ..)
theorem RSt.tl (h : RSt (k + 1) (c :: q) done cur fin) : q.length ≤ 6 ∧ (∀ c ∈ q, c < 16) ∧ done.length + k ≤ 60 ∧ cur.length + k ≤ 60 :=
  ⟨Nat.le_of_succ_le h.hQ, fun x hx => h.h16 x (List.mem_cons_of_mem _ hx), Nat.le_of_succ_le h.hd, Nat.le_of_succ_le h.hc⟩
theorem RSt.push (h : RSt (k + 1) (c :: q) done cur fin) {n : Nat} (hn : n < 16) : (q ++ [n]).length ≤ 6 ∧ ∀ c ∈ q ++ [n], c < 16 :=
  ⟨by rw [List.length_append]; exact h.hQ, fun x hx => by
    rcases List.mem_append.mp hx with hx | hx
    · exact h.h16 x (List.mem_cons_of_mem _ hx)
    · rw [List.mem_singleton.mp hx]; exact hn⟩
theorem RSt.zero_skip (h : RSt (k + 1) (0 :: q) done cur fin) (hc : cur = []) : RSt k q done cur fin := by
  have h1 := h.ok
  have h2 := h.run
  rw [okR_cons, if_pos rfl, if_pos hc] at h1
  rw [runR_cons, if_pos rfl, if_pos hc] at h2
  exact ⟨h1, h2, h.tl.1, h.tl.2.1, h.tl.2.2.1, h.tl.2.2.2⟩
theorem RSt.zero_push (h : RSt (k + 1) (0 :: q) done cur fin) (hc : ¬ cur = []) : RSt k (q ++ [0]) (done ++ [cur]) [] fin := by
  have h1 := h.ok
  have h2 := h.run
  rw [okR_cons, if_pos rfl, if_neg hc] at h1
  rw [runR_cons, if_pos rfl, if_neg hc] at h2
  have h3 := h.hd
  exact ⟨h1, h2, (h.push (by decide)).1, (h.push (by decide)).2, by rw [List.length_append, List.length_singleton]; omega, by rw [List.length_nil]; omega⟩
theorem RSt.half_push (h : RSt (k + 1) (c :: q) done cur fin) (h0 : ¬ c = 0) (h2 : ¬ c / 2 = 0) : RSt k (q ++ [c / 2]) done (cur ++ [((c % 2 : Nat) : Int)]) fin := by
  have h1 := h.ok
  have h3 := h.run
  rw [okR_cons, if_neg h0, if_neg h2] at h1
  rw [runR_cons, if_neg h0, if_neg h2] at h3
  have h4 := h.hc
  have h5 := h.c16
  exact ⟨h1, h3, (h.push (by omega)).1, (h.push (by omega)).2, h.tl.2.2.1, by rw [List.length_append, List.length_singleton]; omega⟩
theorem RSt.half_end (h : RSt (k + 1) (c :: q) done cur fin) (h0 : ¬ c = 0) (h2 : c / 2 = 0) : RSt k q done (cur ++ [((c % 2 : Nat) : Int)]) fin := by
  have h1 := h.ok
  have h3 := h.run
  rw [okR_cons, if_neg h0, if_pos h2] at h1
  rw [runR_cons, if_neg h0, if_pos h2] at h3
  have h4 := h.hc
  exact ⟨h1, h3, h.tl.1, h.tl.2.1, h.tl.2.2.1, by rw [List.length_append, List.length_singleton]; omega⟩
end
/-- where the lists of the rounds lie -/
structure RAddr (z : Lx) (NL RR C : Addr) (ps : List (Addr × Obj)) : Prop where
  aN : @LT.lt Nat _ z.pb NL
  aR : @LT.lt Nat _ NL RR
  aC : @LT.lt Nat _ NL C
  ne : C ≠ RR
  aP : ∀ p ∈ ps, @LT.lt Nat _ NL p.1
  aQ : ∀ p ∈ ps, p.1 ≠ RR ∧ p.1 ≠ C
section
variable {z : Lx} {NL RR C P lx : Addr} {ps : List (Addr × Obj)} {o1 o2 o3 o4 : Obj} {od opb : Obj} {l : List (Nat × Tok)} {n : Nat}
theorem RAddr.hap (h : RAddr z NL RR C ps) (nd : Ord z.S z.cl z.dy z.y z.F z.q.c z.dx z.x z.pb) (h1 : @LT.lt Nat _ P z.S) (h2 : @LT.lt Nat _ P z.cl) (h3 : @LT.lt Nat _ P z.q.c) :
    ∀ q ∈ (NL, o1) :: (P, o2) :: (RR, o3) :: (C, o4) :: ps, q.1 ∉ (z.own lx od opb l n).map (·.1) := by
  intro q hq
  rcases List.mem_cons.mp hq with rfl | hq
  · exact Lx.part nd (.inl h.aN)
  rcases List.mem_cons.mp hq with rfl | hq
  · exact Lx.part nd (.inr ⟨h1, h2, h3⟩)
  rcases List.mem_cons.mp hq with rfl | hq
  · exact Lx.part nd (.inl (Nat.lt_trans h.aN h.aR))
  rcases List.mem_cons.mp hq with rfl | hq
  · exact Lx.part nd (.inl (Nat.lt_trans h.aN h.aC))
  · exact Lx.part nd (.inl (Nat.lt_trans h.aN (h.aP q hq)))
theorem two_hap (hN : @LT.lt Nat _ z.pb NL) (nd : Ord z.S z.cl z.dy z.y z.F z.q.c z.dx z.x z.pb) (h1 : @LT.lt Nat _ P z.S) (h2 : @LT.lt Nat _ P z.cl) (h3 : @LT.lt Nat _ P z.q.c) {I : Addr} {oI : Obj} (hI : @LT.lt Nat _ z.pb I) :
    ∀ q ∈ [(NL, o1), (P, o2), (I, oI)], q.1 ∉ (z.own lx od opb l n).map (·.1) := by
  intro q hq
  rcases List.mem_cons.mp hq with rfl | hq
  · exact Lx.part nd (.inl hN)
  rcases List.mem_cons.mp hq with rfl | hq
  · exact Lx.part nd (.inr ⟨h1, h2, h3⟩)
  rw [List.mem_singleton.mp hq]
  exact Lx.part nd (.inl hI)
theorem two_hap' (hN : @LT.lt Nat _ z.pb NL) (nd : Ord z.S z.cl z.dy z.y z.F z.q.c z.dx z.x z.pb) (h1 : @LT.lt Nat _ P z.S) (h2 : @LT.lt Nat _ P z.cl) (h3 : @LT.lt Nat _ P z.q.c) :
    ∀ q ∈ [(NL, o1), (P, o2)], q.1 ∉ (z.own lx od opb l n).map (·.1) := by
  intro q hq
  rcases List.mem_cons.mp hq with rfl | hq
  · exact Lx.part nd (.inl hN)
  rw [List.mem_singleton.mp hq]
  exact Lx.part nd (.inr ⟨h1, h2, h3⟩)
/-- the objects of a lexer without its lambda's code -/
noncomputable def Lx.own8 (lx : Addr) (z : Lx) (od opb : Obj) (l : List (Nat × Tok)) (n : Nat) : List (Addr × Obj) := [(z.dx, od), (z.pb, opb), (z.S, lstS l n), (z.x, instObj lx z.dx), (z.F, lamO z.q), (z.y, instObj lx z.dy), (z.dy, z.ody), (z.cl, z.ocl)]
theorem RAddr.hap8 (h : RAddr z NL RR C ps) (nd : Ord z.S z.cl z.dy z.y z.F z.q.c z.dx z.x z.pb) (h1 : @LT.lt Nat _ P z.S) (h2 : @LT.lt Nat _ P z.cl) (h3 : @LT.lt Nat _ P z.q.c) :
    ∀ q ∈ z.own8 lx od opb l n ++ (NL, o1) :: (RR, o3) :: (C, o4) :: ps, q.1 ∉ ([(P, o2), (z.q.c, z.oc)] : List (Addr × Obj)).map (·.1) := by
  have hN := h.aN
  have hR := h.aR
  have hC := h.aC
  have go : ∀ a : Nat, (z.q.c < a ∨ (z.q.c ≠ a ∧ P < a)) → (a : Addr) ∉ ([(P, o2), (z.q.c, z.oc)] : List (Addr × Obj)).map (·.1) := fun a ha hm => by
    have hm : @Membership.mem Nat (List Nat) _ [P, z.q.c] a := hm
    simp only [List.mem_cons, List.not_mem_nil, or_false] at hm
    have h3 : @LT.lt Nat _ P z.q.c := h3
    rcases hm with rfl | rfl
    · rcases ha with ha | ha
      · exact Nat.lt_asymm ha h3
      · exact Nat.lt_irrefl _ ha.2
    · rcases ha with ha | ha
      · exact Nat.lt_irrefl _ ha
      · exact ha.1 rfl
  have k8 : ∀ a ∈ ([z.dx, z.pb, z.S, z.x, z.F, z.y, z.dy, z.cl] : List Nat), @LT.lt Nat _ z.q.c a ∨ (@Ne Nat z.q.c a ∧ @LT.lt Nat _ P a) := by
    unfold Ord at nd
    intro a ha
    simp only [List.mem_cons, List.not_mem_nil, or_false] at ha
    rcases ha with rfl | rfl | rfl | rfl | rfl | rfl | rfl | rfl <;> omega
  have hpb : @LT.lt Nat _ z.q.c z.pb := by unfold Ord at nd; omega
  intro q hq
  refine go q.1 ?_
  rcases List.mem_append.mp hq with hq | hq
  · exact k8 q.1 (List.mem_map_of_mem (f := fun x : Addr × Obj => (x.1 : Nat)) hq)
  · have hc : @LT.lt Nat _ z.q.c NL := Nat.lt_trans hpb hN
    rcases List.mem_cons.mp hq with rfl | hq
    · exact .inl hc
    rcases List.mem_cons.mp hq with rfl | hq
    · exact .inl (Nat.lt_trans hc hR)
    rcases List.mem_cons.mp hq with rfl | hq
    · exact .inl (Nat.lt_trans hc hC)
    · exact .inl (Nat.lt_trans hc (h.aP q hq))
theorem RAddr.fs (h : RAddr z NL RR C ps) (nd : Ord z.S z.cl z.dy z.y z.F z.q.c z.dx z.x z.pb) (h1 : @LT.lt Nat _ P z.S) : ∀ q ∈ ([(NL, o1), (P, o2)] : List (Addr × Obj)), q.1 ≠ RR := by
  have hN := h.aN
  have hR := h.aR
  have hp : @LT.lt Nat _ P z.pb := by unfold Ord at nd; omega
  intro q hq
  rcases List.mem_cons.mp hq with rfl | hq
  · exact Nat.ne_of_lt hR
  · rw [List.mem_singleton.mp hq]
    exact Nat.ne_of_lt (Nat.lt_trans hp (Nat.lt_trans hN hR))
theorem RAddr.fsC (h : RAddr z NL RR C ps) (nd : Ord z.S z.cl z.dy z.y z.F z.q.c z.dx z.x z.pb) (h1 : @LT.lt Nat _ P z.S) : ∀ q ∈ ([(NL, o1), (P, o2), (RR, o3)] : List (Addr × Obj)), q.1 ≠ C := by
  have hN := h.aN
  have hR := h.aC
  have hp : @LT.lt Nat _ P z.pb := by unfold Ord at nd; omega
  intro q hq
  rcases List.mem_cons.mp hq with rfl | hq
  · exact Nat.ne_of_lt hR
  rcases List.mem_cons.mp hq with rfl | hq
  · exact Nat.ne_of_lt (Nat.lt_trans hp (Nat.lt_trans hN hR))
  · rw [List.mem_singleton.mp hq]
    exact Ne.symm h.ne
theorem RAddr.pR (h : RAddr z NL RR C ps) : ∀ q ∈ (C, o1) :: ps, q.1 ≠ RR := by
  intro q hq
  rcases List.mem_cons.mp hq with rfl | hq
  · exact h.ne
  · exact (h.aQ q hq).1
theorem RAddr.new (h : RAddr z NL RR C ps) {C2 : Addr} (h1 : ∀ q ∈ (C, o4) :: ps, q.1 < C2) (h2 : RR < C2) : RAddr z NL RR C2 ((C, o4) :: ps) :=
  ⟨h.aN, h.aR, Nat.lt_trans h.aR h2, Nat.ne_of_gt h2, fun p hp => by
    rcases List.mem_cons.mp hp with rfl | hp
    · exact h.aC
    · exact h.aP p hp, fun p hp => ⟨by
    rcases List.mem_cons.mp hp with rfl | hp
    · exact h.ne
    · exact (h.aQ p hp).1, Nat.ne_of_lt (h1 p hp)⟩⟩
end
/-- the two lists and what is in them -/
structure RDat (z : Lx) (NL RR C : Addr) (ps : List (Addr × Obj)) (dref cvs : List Value) (done : List (List Int)) (cur : List Int) : Prop where
  hda : PySem.W.DatAll ps dref (done.map datI)
  hca : IntsAre cvs cur
  ad : RAddr z NL RR C ps
section
open PySem.W
theorem dat_ints {news : List (Addr × Obj)} {vs : List Value} {ns : List Int} (h : IntsAre vs ns) : DatAll news vs (ns.map .int) := by
  induction h with
  | nil => exact .nil
  | cons n t _ ih => exact .cons (.int n t) ih
theorem dat_len {news : List (Addr × Obj)} {vs : List Value} : ∀ {ds : List Dat}, DatAll news vs ds → vs.length = ds.length := by
  induction vs with
  | nil => intro ds h; cases h; rfl
  | cons v vs ih => intro ds h; cases h with | cons _ r => exact congrArg (· + 1) (ih r)
theorem dat_lists {ps : List (Addr × Obj)} {C : Addr} {dref cvs : List Value} {done : List (List Int)} {cur : List Int} {capC : Nat} (hd : DatAll ps dref (done.map datI)) (hc : IntsAre cvs cur) {ps' : List (Addr × Obj)} (hs : ∀ q ∈ (C, W.listOf cvs.toArray capC) :: ps, q ∈ ps') :
    DatAll ps' (dref ++ [Value.ref C]) ((done ++ [cur]).map datI) := by
  rw [List.map_append]
  exact (DatAll.mono (fun q hq => hs q (List.mem_cons_of_mem _ hq)) hd).append (.cons (.list (hs _ (List.mem_cons_self ..)) (dat_ints hc)) .nil)
end
theorem RDat.new {z : Lx} {NL RR C C2 : Addr} {ps : List (Addr × Obj)} {dref cvs : List Value} {done : List (List Int)} {cur : List Int} {capC : Nat} (h : RDat z NL RR C ps dref cvs done cur) (h1 : ∀ q ∈ (C, W.listOf cvs.toArray capC) :: ps, q.1 < C2) (h2 : RR < C2) :
    RDat z NL RR C2 ((C, W.listOf cvs.toArray capC) :: ps) (dref ++ [Value.ref C]) [] (done ++ [cur]) [] :=
  ⟨dat_lists h.hda h.hca (fun _ hq => hq), .nil, h.ad.new h1 h2⟩
theorem RDat.bit {z : Lx} {NL RR C : Addr} {ps : List (Addr × Obj)} {dref cvs : List Value} {done : List (List Int)} {cur : List Int} (h : RDat z NL RR C ps dref cvs done cur) (n : Int) (t : Tok) : RDat z NL RR C ps dref (cvs ++ [.int n t]) done (cur ++ [n]) :=
  ⟨h.hda, ints_snoc h.hca n t, h.ad⟩
theorem RDat.lens {z : Lx} {NL RR C : Addr} {ps : List (Addr × Obj)} {dref cvs : List Value} {done : List (List Int)} {cur : List Int} (h : RDat z NL RR C ps dref cvs done cur) {k : Nat} {Q : List Nat} {fin} (hs : RSt k Q done cur fin) : (dref ++ [Value.ref C]).length ≤ 61 ∧ cvs.length ≤ 60 := by
  have h1 := hs.hd
  have h2 := hs.hc
  have h3 := dat_len h.hda
  have h4 := h.hca.length
  rw [List.length_map] at h3
  rw [List.length_append, List.length_singleton]
  omega
/-- the word that is read -/
inductive WordIs (lx : Addr) (w : World) (z : Lx) (ln : Int) (tt : Tok) (l : List (Nat × Tok)) (n : Nat) : List Nat → Str → List (Addr × Obj) → Prop
  | pop (c : Nat) (q : List Nat) (vs : List Value) (npb : Nat) (h : QAre vs q) : WordIs lx w z ln tt l n (c :: q) (wq c) (z.own lx (z.od w ln tt) (W.listOf vs.toArray npb) l n)
  | fin (l' pre : List (Nat × Tok)) (n' npb : Nat) (t' : Tok) (h1 : l = pre ++ l') (h2 : l'.map (·.1) = (token (l.map (·.1))).2) : WordIs lx w z ln tt l n [] (Str.ofString "end") (z.own lx (z.od w (ln + nls (pre.map (·.1))) t') (W.listOf #[] npb) l' n')
inductive RoundsPost (lx P a b : Addr) (w : World) (z : Lx) (ln : Int) (l : List (Nat × Tok)) (NL : Addr) (oNL : Obj) (fin : List (List Int) × List Int) : Value → List (Addr × Obj) → Prop
  | mk (R : Addr) (l' pre : List (Nat × Tok)) (n' npb : Nat) (t' : Tok) (ps : List (Addr × Obj)) (h1 : l = pre ++ l') (h2 : l'.map (·.1) = (token (l.map (·.1))).2)
    (h3 : PySem.W.DatIn ps (.ref R) (.list [.list ((fin.1 ++ [fin.2]).map datI), .int (ln + nls (pre.map (·.1)))])) (h4 : ∀ p ∈ ps, @LT.lt Nat _ NL p.1) :
    RoundsPost lx P a b w z ln l NL oNL fin (.ref R) (z.own lx (z.od w (ln + nls (pre.map (·.1))) t') (W.listOf #[] npb) l' n' ++ (NL, oNL) :: (P, tabO a b z.q.c) :: ps)
inductive rInv (lx P a b : Addr) (w : World) (z : Lx) (ln : Int) (tt : Tok) (l : List (Nat × Tok)) (n : Nat) (NL : Addr) (oNL : Obj) (fin : List (List Int) × List Int) (m : Str → Option Value) : Nat → List (Addr × Obj) → Prop
  | mk (a1 : m (Str.ofString "lexer") = some (.ref z.x)) (RR C : Addr) (turn : Int) (ti u : Tok) (y : Str) (a2 : m (Str.ofString "rounds") = some (.ref RR)) (a3 : m (Str.ofString "turn") = some (.int turn ti)) (a4 : m (Str.ofString "word") = some (.str y u))
    (k : Nat) (Q : List Nat) (done : List (List Int)) (cur : List Int) (own ps : List (Addr × Obj)) (dref cvs : List Value) (capR capC : Nat) (hw : WordIs lx w z ln tt l n Q y own) (hst : RSt k Q done cur fin) (hh : RDat z NL RR C ps dref cvs done cur) :
    rInv lx P a b w z ln tt l n NL oNL fin m k (own ++ (NL, oNL) :: (P, tabO a b z.q.c) :: (RR, W.listOf (dref ++ [Value.ref C]).toArray capR) :: (C, W.listOf cvs.toArray capC) :: ps)
inductive RMid (lx P a b : Addr) (w : World) (z : Lx) (ln : Int) (tt : Tok) (l : List (Nat × Tok)) (n : Nat) (NL : Addr) (oNL : Obj) (fin : List (List Int) × List Int) (g : Heap) (L : Addr) (s : Shared) (k : Nat) : Flow → Shared → Prop
  | mk (h : Heap) (tk : Nat) (m : Str → Option Value) (a1 : m (Str.ofString "lexer") = some (.ref z.x)) (RR C : Addr) (turn : Int) (ti : Tok) (a2 : m (Str.ofString "rounds") = some (.ref RR)) (a3 : m (Str.ofString "turn") = some (.int turn ti))
    (Q : List Nat) (done : List (List Int)) (cur : List Int) (ps : List (Addr × Obj)) (vs dref cvs : List Value) (npb capR capC : Nat) (hq : QAre vs Q) (hst : RSt k Q done cur fin) (hh : RDat z NL RR C ps dref cvs done cur) (F : Fr g L h m)
    (N : News g L h (z.own lx (z.od w ln tt) (W.listOf vs.toArray npb) l n ++ (NL, oNL) :: (P, tabO a b z.q.c) :: (RR, W.listOf (dref ++ [Value.ref C]).toArray capR) :: (C, W.listOf cvs.toArray capC) :: ps)) : RMid lx P a b w z ln tt l n NL oNL fin g L s k .next { s with heap := h, toks := tk }
inductive forInvR (lx P a b : Addr) (w : World) (z : Lx) (ln : Int) (tt : Tok) (l : List (Nat × Tok)) (n : Nat) (NL I : Addr) (refs : List Value) (cap : Nat) (ns : List Int) (turn : Int) (ti : Tok) (m : Str → Option Value) : Nat → List (Addr × Obj) → Prop
  | mk (a1 : m (Str.ofString "lexer") = some (.ref z.x)) (a2 : m (Str.ofString "turn") = some (.int turn ti)) (i npb : Nat) (vs : List Value) (oI : Obj) (hi : i ≤ refs.length) (hI : IsLI NL i oI) (hq : QAre vs (posQ (ns.take i))) :
    forInvR lx P a b w z ln tt l n NL I refs cap ns turn ti m (refs.length - i) ((I, oI) :: (z.own lx (z.od w ln tt) (W.listOf vs.toArray npb) l n ++ [(NL, W.listOf refs.toArray cap), (P, tabO a b z.q.c)]))
section
variable {g h : Heap} {L : Addr} {own b c ps : List (Addr × Obj)} {x x1 x2 x3 : Addr × Obj}
theorem news_rot (N : News g L h (b ++ (own ++ c))) : News g L h (own ++ (c ++ b)) := by
  rw [← List.append_assoc]; exact news_swap N
theorem news_rotl (N : News g L h (own ++ (c ++ b))) : News g L h (b ++ (own ++ c)) := by
  rw [← List.append_assoc] at N; exact news_swap N

theorem news_ins3 (N : News g L h (x :: (own ++ x1 :: x2 :: x3 :: ps))) : News g L h (own ++ x1 :: x2 :: x3 :: x :: ps) := fun q hq => N q (by
  simp only [List.mem_append, List.mem_cons] at hq ⊢
  rcases hq with h | h | h | h | h | h <;> simp only [h, true_or, or_true])
theorem news_ins2 (N : News g L h (x :: (own ++ x1 :: x2 :: ps))) : News g L h (own ++ x1 :: x2 :: x :: ps) := fun q hq => N q (by
  simp only [List.mem_append, List.mem_cons] at hq ⊢
  rcases hq with h | h | h | h | h <;> simp only [h, true_or, or_true])
end
theorem app_mid {prog : Program} {w : World} {A₀ : Around} {E : Value → Shared → Prop} {s : Shared} {g : Heap} {L A : Addr} {m : Str → Option Value} {v : Value} {refs : List Value} {cap : Nat} {own fs ps : List (Addr × Obj)} {Q : Value → Shared → Prop}
    (F : Fr g L s.heap m) (N : News g L s.heap (own ++ (fs ++ (A, W.listOf refs.toArray cap) :: ps))) (hown : ∀ q ∈ own, q.1 ≠ A) (hfs : ∀ q ∈ fs, q.1 ≠ A) (hps : ∀ q ∈ ps, q.1 ≠ A) (hsz : refs.length ≤ sizeLine)
    (h : ∀ h', Fr g L h' m → News g L h' (own ++ (fs ++ (A, W.listOf (refs ++ [v]).toArray (cap + 1)) :: ps)) → Q .none { s with heap := h' }) : wpAny (model prog w) A₀ (call (.builtin "list.append") [.ref A, v]) Q E s := by
  have zA := N (A, W.listOf refs.toArray cap) (List.mem_append_right _ (List.mem_append_right _ (List.mem_cons_self ..)))
  refine append_at (hsz := by rw [List.size_toArray]; exact hsz) zA.1 fun h' hs hD => ?_
  refine h h' (F.change hs zA.2.1 zA.2.2) fun q hq => ?_
  have go : ∀ q ∈ own ++ (fs ++ (A, W.listOf refs.toArray cap) :: ps), q.1 ≠ A → h'.get? q.1 = some q.2 ∧ q.1 ≠ L ∧ g.get? q.1 = none := fun q hq hne => ⟨hs.extBut _ _ hne (N q hq).1, (N q hq).2⟩
  rcases List.mem_append.mp hq with hq | hq
  · exact go q (List.mem_append_left _ hq) (hown q hq)
  rcases List.mem_append.mp hq with hq | hq
  · exact go q (List.mem_append_right _ (List.mem_append_left _ hq)) (hfs q hq)
  rcases List.mem_cons.mp hq with rfl | hq
  · exact ⟨by rw [hD]; simp, zA.2⟩
  · exact go q (List.mem_append_right _ (List.mem_append_right _ (List.mem_cons_of_mem _ hq))) (hps q hq)
theorem last_item {prog : Program} {w : World} {A : Around} {E : Value → Shared → Prop} {s : Shared} {value slice : Expr} {r : Addr} {vs : List Value} {x : Value} {u : Tok} {Q : Value → Shared → Prop} (hl : s.heap.IsList r (vs ++ [x]).toArray) (h : Q x s)
    (hs : subscripted slice false (.ref r) (.int (-1) u) = operate [.ref r, .int (-1) u] (getItem (.ref r) (.int (-1) u)) := by with_unfolding_all rfl) : wpAny (model prog w) A (subscriptTail value slice (.ref r) (.int (-1) u)) Q E s :=
  subscriptTail_builtinR hl.typeIs slot_list_getitem.lookup (wpAny_getItem_list_neg (Q := fun r s' => r = x ∧ Q r s') hl (by decide) (by simp only [List.size_toArray, List.length_append, List.length_singleton]; omega) (by decide) (by
    simp only [List.size_toArray, List.length_append, List.length_singleton]
    rw [show ((-1 : Int) + ((vs.length + 1 : Nat) : Int)).toNat = vs.length from by omega]
    simp) ⟨rfl, h⟩) hs
theorem rounds_pack {lx P a b : Addr} {w : World} {z : Lx} {ln : Int} {l l' pre : List (Nat × Tok)} {NL R RR C : Addr} {oNL : Obj} {g h : Heap} {L : Addr} {mm : Str → Option Value} {s : Shared} {tk n' npb capR capC : Nat} {dref cvs : List Value} {done : List (List Int)} {cur : List Int} {ps : List (Addr × Obj)} {u t' : Tok}
    (F : Fr g L h mm) (N : News g L h ((R, W.listOf #[.ref RR, .int (ln + nls (pre.map (·.1))) u] 0) :: (z.own lx (z.od w (ln + nls (pre.map (·.1))) t') (W.listOf #[] npb) l' n' ++ (NL, oNL) :: (P, tabO a b z.q.c) :: (RR, W.listOf (dref ++ [Value.ref C]).toArray capR) :: (C, W.listOf cvs.toArray capC) :: ps)))
    (h1 : l = pre ++ l') (h2 : l'.map (·.1) = (token (l.map (·.1))).2) (hh : RDat z NL RR C ps dref cvs done cur) (hR : NL < R) {fin : List (List Int) × List Int} (hf : fin = (done, cur)) : Lv s g (RoundsPost lx P a b w z ln l NL oNL fin) (.ref R) { s with heap := h, toks := tk } := by
  subst hf
  refine ⟨L, _, _, rfl, F, news_ins2 N, .mk R l' pre n' npb t' _ h1 h2 (.list (n := 0) (vs := [.ref RR, .int _ u]) (List.mem_cons_self ..) (.cons (.list (n := capR) (List.mem_cons_of_mem _ (List.mem_cons_self ..)) (dat_lists hh.hda hh.hca (fun q hq => List.mem_cons_of_mem _ (List.mem_cons_of_mem _ hq)))) (.cons (.int _ _) .nil))) ?_⟩
  intro q hq
  rcases List.mem_cons.mp hq with rfl | hq
  · exact hR
  rcases List.mem_cons.mp hq with rfl | hq
  · exact hh.ad.aR
  rcases List.mem_cons.mp hq with rfl | hq
  · exact hh.ad.aC
  · exact hh.ad.aP q hq
/-- get_token, whatever waits -/
theorem word_use (w : World) {p : Program} {loose : List Str} {mean : ExcName → Option Value} {mg mb : Str → Option Value} (z : Lx) (hz : z.Ok PySem.Challenge.rw_pm0015_02.row.prog w (Mine.hd.heap_39 w.params) p loose mean mg mb) {ln : Int} {tt : Tok}
    {l : List (Nat × Tok)} {n : Nat} (hl : l.length ≤ 5000) (hend : (token (l.map (·.1))).1 = [101, 110, 100]) {vv : List Value} {Q0 : List Nat} (hq : QAre vv Q0) (hql : Q0.length ≤ 6) {npb : Nat} {A₀ : Around} {base g : Heap} {outer : List Env} {env : Env} {L : Addr} {mm : Str → Option Value} {s : Shared} {dp un : Nat} {gd : Option (List Code)} {rest : List (Addr × Obj)}
    {Q E : Value → Shared → Prop}
    (B : Below A₀ base outer g) (F : Fr g L s.heap mm) (X : (Mine.hd.heap_39 w.params).In g) (T : Top p loose mean mg mb g) (D : KtsDicts (fsOf outer) g) (N : News g L s.heap (z.own 52 (z.od w ln tt) (W.listOf vv.toArray npb) l n ++ rest))
    (hf : env.frame = some L) (hke : env.scope.kind = .function) (hd : dp + 8 < recursionLimit) (hu : un + 100 < cLine) (hap : ∀ q ∈ rest, q.1 ∉ (z.own 52 (z.od w ln tt) (W.listOf vv.toArray npb) l n).map (·.1))
    (h : ∀ y u own' h' tk', WordIs 52 w z ln tt l n Q0 y own' → Fr g L h' mm → News g L h' (own' ++ rest) → Q (.str y u) { s with heap := h', toks := tk' }) :
    wpAny (model PySem.Challenge.rw_pm0015_02.row.prog w) (mA dp un gd (env :: outer)) (call (.ref 42) [.ref z.x]) Q E s := by
  cases Q0 with
  | nil =>
    have hv : vv = [] := List.length_eq_zero_iff.mp hq.len
    subst hv
    refine ctr_use (token_k w z hz ln tt npb l n hl) B F X T D N hf hke hd hu hap ?_
    rintro v own' h' tk' ⟨l', n', t', u, pre, hpre, hl'⟩ F1 N1 _
    rw [show strOf (token (l.map (·.1))).1 = Str.ofString "end" by rw [hend]; decide +kernel]
    exact h _ u _ h' tk' (.fin l' pre n' npb t' hpre hl') F1 N1
  | cons c q' =>
    obtain ⟨t, vs', rfl, hq'⟩ := hq.pop
    have hv : vs'.length ≤ 5000 := by
      rw [hq'.len]
      exact Nat.le_trans (Nat.le_of_succ_le hql) (by decide)
    refine ctr_use (pop_k w z hz ln tt (.str (wq c) t) vs' npb hv l n) B F X T D N hf hke hd hu hap ?_
    rintro v own' h' tk' ⟨⟩ F1 N1 _
    exact h _ t _ h' tk' (.pop c q' vs' (npb + 1) hq') F1 N1
/-- push_token of a word that waits -/
theorem push_use (w : World) {p : Program} {loose : List Str} {mean : ExcName → Option Value} {mg mb : Str → Option Value} (z : Lx) (hz : z.Ok PySem.Challenge.rw_pm0015_02.row.prog w (Mine.hd.heap_39 w.params) p loose mean mg mb) {ln : Int} {tt : Tok}
    {l : List (Nat × Tok)} {n : Nat} {vv : List Value} {Q0 : List Nat} (hq : QAre vv Q0) (hql : Q0.length ≤ 6) (c : Nat) {tc : Tok} {npb : Nat} {A₀ : Around} {base g : Heap} {outer : List Env} {env : Env} {L : Addr} {mm : Str → Option Value} {s : Shared} {dp un : Nat} {gd : Option (List Code)} {rest : List (Addr × Obj)}
    {Q E : Value → Shared → Prop}
    (B : Below A₀ base outer g) (F : Fr g L s.heap mm) (X : (Mine.hd.heap_39 w.params).In g) (T : Top p loose mean mg mb g) (D : KtsDicts (fsOf outer) g) (N : News g L s.heap (z.own 52 (z.od w ln tt) (W.listOf vv.toArray npb) l n ++ rest))
    (hf : env.frame = some L) (hke : env.scope.kind = .function) (hd : dp + 4 < recursionLimit) (hu : un + 40 < cLine) (hap : ∀ q ∈ rest, q.1 ∉ (z.own 52 (z.od w ln tt) (W.listOf vv.toArray npb) l n).map (·.1))
    (h : ∀ vs' h' tk', QAre vs' (Q0 ++ [c]) → Fr g L h' mm → News g L h' (z.own 52 (z.od w ln tt) (W.listOf vs'.toArray (npb + 1)) l n ++ rest) → Q .none { s with heap := h', toks := tk' }) :
    wpAny (model PySem.Challenge.rw_pm0015_02.row.prog w) (mA dp un gd (env :: outer)) (call (.ref 49) [.ref z.x, .str (wq c) tc]) Q E s := by
  refine ctr_use (push_k w z hz ln tt vv npb (by rw [hq.len]; exact Nat.le_trans hql (by decide)) _ l n) B F X T D N hf hke hd hu hap ?_
  rintro v own' h' tk' ⟨⟩ F1 N1 _
  exact h _ h' tk' (hq.snoc c tc) F1 N1
theorem wq_facts {c : Nat} (hc : c < 16) : (wq c != Str.ofString "end") = true ∧ (wq c).length ≤ 17 ∧ (wq 0 != Str.ofString "") = false := by
  have : ∀ c < 16, (wq c != Str.ofString "end") = true ∧ (wq c).length ≤ 17 ∧ (wq 0 != Str.ofString "") = false := by decide +kernel
  exact this c hc
theorem wq_half {c : Nat} (hc : c < 16) (h0 : ¬ c = 0) : (wq c != Str.ofString "") = true ∧ Txt.slice (wq c) none (some (-1)) = qs c := by
  have : ∀ c < 16, ¬ c = 0 → (wq c != Str.ofString "") = true ∧ Txt.slice (wq c) none (some (-1)) = qs c := by decide +kernel
  exact this c hc h0
theorem half_pos {c : Nat} : (0 : Int) < ((c / 2 : Nat) : Int) ↔ ¬ c / 2 = 0 := by omega
set_option maxRecDepth 100000 in
set_option maxHeartbeats 8000000 in
theorem rounds_k (w : World) {p : Program} {loose : List Str} {mean : ExcName → Option Value} {mg mb : Str → Option Value} (z : Lx) (hz : z.Ok PySem.Challenge.rw_pm0015_02.row.prog w (Mine.hd.heap_39 w.params) p loose mean mg mb) (ln : Int) (tl : Tok) (npb : Nat)
    (l : List (Nat × Tok)) (n : Nat) (hl : l.length ≤ 5000) (hPS : @LT.lt Nat _ 116 z.S) (hPl : @LT.lt Nat _ 116 z.cl) (hPc : @LT.lt Nat _ 116 z.q.c) (NL : Addr) (refs : List Value) (cap : Nat) (ns : List Int) (hns : IntsAre refs ns) (hnl : ns.length ≤ 5) (hn15 : ∀ i ∈ ns, i < 16)
    (hNL : @LT.lt Nat _ z.pb NL) (turn : Int) (tt : Tok) (hend : (token (l.map (·.1))).1 = [101, 110, 100]) (fuel : Nat) (hfu : fuel ≤ 50) (hok : okR fuel (posQ ns ++ [0]) []) :
    Ctr PySem.Challenge.rw_pm0015_02.row.prog w (Mine.hd.heap_39 w.params) p loose mean mg mb 16 300 156 [.ref z.x, .ref NL, .int turn tt]
      (z.own 52 (z.od w ln tl) (W.listOf #[] npb) l n ++ [(NL, W.listOf refs.toArray cap), (116, tabO 102 18 z.q.c)]) (RoundsPost 52 116 102 18 w z ln l NL (W.listOf refs.toArray cap) (runR fuel (posQ ns ++ [0]) [] [])) noErr noErrN := by
  k_fill
  (k_dflt (refine' ctr_enter ?k6 ?k7 ?k9 ?kB ?_ ?c2 ?c3 ?c4 ?c5; (case k6 => k_is); (case k7 => k_is); (case k9 => exact fun _ => BindsTo.of_eq rfl); (case c5 => decide); (case kB => exact locs rfl); (case c2 => exact rfl); (case c3 => exact rfl); (case c4 => exact rfl); k_whole))
  intro dp un gd fr base g L h₁ s hd hu hg B F N X T hlt D
  clear hg hlt
  (try dsimp only)
  (((try dsimp only); (with_reducible show wpAny _ _ _ _ _ _); k_fold))
  k_steps
  unfold Hold
  refine for_inv (h₀ := g) ?_
  k_steps
  unfold Hold
  (with_reducible rename Fr _ _ _ _ => F2)
  (with_reducible rename News _ _ _ _ => N2)
  refine iter_listN F2 N2 (its := refs.toArray) (nc := cap) (List.mem_append_right _ (List.mem_cons_self ..)) ?_
  intro I oI h3 hI F3 N3 l3
  have hrl : refs.length = ns.length := hns.length
  have hpI : @LT.lt Nat _ z.pb I := l3 (z.pb, W.listOf #[] npb) (List.mem_append_left _ Lx.mem_pb)
  have hNI : @LT.lt Nat _ NL I := l3 _ (List.mem_append_right _ (List.mem_cons_self ..))
  have htI : @LT.lt Nat _ 116 I := l3 _ (List.mem_append_right _ (List.mem_cons_of_mem _ (List.mem_cons_self ..)))
  refine ⟨fun k mm news => forInvR 52 116 102 18 w z ln tl l n NL I refs cap ns turn tt mm k news, refs.length, _, _, .mk (by rfl) (by rfl) 0 npb [] oI (Nat.zero_le _) hI (by simpa [posQ] using QAre.nil), F3, N3, fun _ => rfl, ?_⟩
  clear F3 N3 F2 N2 hI oI l3
  rintro k m₁ news₁ h tk ⟨hml, hmt, i, npb', vs, oI, hi, hI, hq⟩ F N
  have hql : (posQ (ns.take i)).length ≤ 5 := Nat.le_trans (posQ_len _) (by rw [List.length_take]; exact Nat.le_trans (Nat.min_le_right ..) hnl)
  refine next_list rfl F N hI ⟨_, (N (NL, W.listOf refs.toArray cap) (List.mem_cons_of_mem _ (List.mem_append_right _ (List.mem_cons_self ..)))).1, rfl, cap, rfl⟩ ?hne ?item ?done
  (case hne =>
    intro q hq'
    rcases List.mem_append.mp hq' with hq' | hq'
    · exact own_apart hz.nd hpI q hq'
    rcases List.mem_cons.mp hq' with rfl | hq'
    · exact Nat.ne_of_lt hNI
    · rw [List.mem_singleton.mp hq']; exact Nat.ne_of_lt htI)
  (case item =>
    intro v h' oI' hv hI' F4 N4
    clear F N
    dsimp only
    obtain ⟨j, tj, rfl, hj⟩ := ints_get hns (by simpa using hv)
    have hil : i < refs.length := by have := (Array.getElem?_eq_some_iff.mp hv).1; simpa using this
    have hj15 := hn15 j (List.mem_of_getElem? hj)
    have hps := posQ_snoc ns i hj
    have hk : refs.length - (i + 1) < refs.length - i := by omega
    refine wpAny_assign_Name ?_
    k_fold
    k_steps
    · rename 0 < j => hj0
      unfold Hold
      (with_reducible rename Fr _ _ _ _ => F5)
      (with_reducible rename News _ _ _ _ => N5)
      rw [if_pos hj0] at hps
      obtain ⟨jn, rfl⟩ : ∃ jn : Nat, j = jn := ⟨j.toNat, by omega⟩
      rw [wq_mul jn (by omega) (by omega)]
      refine push_use w z hz hq (Nat.le_succ_of_le hql) jn (rest := [(NL, W.listOf refs.toArray cap), (116, tabO 102 18 z.q.c), (I, oI')]) B F5 X T D (news_rot (b := [_]) (c := [_, _]) N5) rfl rfl (lt_up 5 hd rfl) (lt_up 43 hu rfl) (two_hap hNL hz.nd hPS hPl hPc hpI) ?_
      intro vv h6 tk6 hvv F6 N6
      clear F5 N5
      replace N6 := news_rotl (c := [_, _]) (b := [_]) N6
      dsimp only
      k_steps
      (try unfold Hold)
      dsimp only [TurnEnd]
      (with_reducible rename Fr _ _ _ _ => F7)
      (with_reducible rename News _ _ _ _ => N7)
      exact ⟨refs.length - (i + 1), _, _, _, _, hk, rfl, F7, N7, .mk (by exact hml) (by exact hmt) (i + 1) (npb' + 1) vv oI' hil hI' (by rw [hps]; exact hvv)⟩
    · rename ¬ 0 < j => hj0
      rw [if_neg hj0] at hps
      (try unfold Hold)
      dsimp only [TurnEnd]
      (with_reducible rename Fr _ _ _ _ => F7)
      (with_reducible rename News _ _ _ _ => N7)
      exact ⟨refs.length - (i + 1), _, _, _, _, hk, rfl, F7, N7, .mk (by exact hml) (by exact hmt) (i + 1) npb' vs oI' hil hI' (by rw [hps]; exact hq)⟩)
  (case done =>
    intro h' hnone F4 N4
    dsimp only
    clear F N hI
    have hie : ns.take i = ns := List.take_of_length_le (by
      have := Array.getElem?_eq_none_iff.mp hnone
      simp only [List.size_toArray] at this
      omega)
    rw [hie] at hq hql
    clear hnone hpI hNI htI hie hi
    k_steps
    unfold Hold
    (with_reducible rename Fr _ _ _ _ => F5)
    (with_reducible rename News _ _ _ _ => N5)
    refine push_use w z hz hq (Nat.le_succ_of_le hql) 0 (rest := [(NL, W.listOf refs.toArray cap), (116, tabO 102 18 z.q.c)]) B F5 X T D N5 rfl rfl (lt_up 5 hd rfl) (lt_up 43 hu rfl) (two_hap' hNL hz.nd hPS hPl hPc) ?_
    intro vv h6 tk6 hvv F6 N6
    clear F5 N5
    dsimp only
    k_steps
    unfold Hold
    rename_i C hx1 lC RR hx2 FO NO lR mm hx3 F8 N8
    clear FO NO
    dsimp only [List.append_nil]
    have hCR : @LT.lt Nat _ C RR := lR.1
    have hNC : @LT.lt Nat _ NL C := lC (NL, W.listOf refs.toArray cap) (List.mem_append_right _ (List.mem_cons_self ..))
    have had : RAddr z NL RR C [] := ⟨hNL, Nat.lt_trans hNC hCR, hNC, Nat.ne_of_lt hCR, (fun _ h => nomatch h), (fun _ h => nomatch h)⟩
    clear lC lR
    have hst := RSt.start hnl hn15 hfu hok
    refine word_use w z hz hl hend hvv hst.hQ (rest := [(NL, W.listOf refs.toArray cap), (116, tabO 102 18 z.q.c), (RR, W.listOf (([] : List Value) ++ [Value.ref C]).toArray 0), (C, W.listOf ([] : List Value).toArray 0)]) B F8 X T D (news_rot (b := [_, _]) (c := [_, _]) N8) rfl rfl (lt_up 9 hd rfl) (lt_up 103 hu rfl) (had.hap hz.nd hPS hPl hPc) ?_
    intro y u own' h9 tk9 hw F9 N9
    clear F8 N8 hvv
    dsimp only
    (((try dsimp only); (with_reducible show wpAny _ _ _ _ _ _); k_fold))
    k_steps
    unfold Hold
    (with_reducible rename Fr _ _ _ _ => F10)
    (with_reducible rename News _ _ _ _ => N10)
    refine while_inv (fun k mm news => rInv 52 116 102 18 w z ln tl l n NL (W.listOf refs.toArray cap) (runR fuel (posQ ns ++ [0]) [] []) mm k news) (n₀ := fuel) F10 N10 (.mk (by exact hml) RR C turn tt u y (by rfl) (by exact hmt) (by rfl) fuel _ [] [] own' [] [] [] 0 0 hw hst ⟨.nil, .nil, had⟩) ?turn
    (case turn =>
      clear F10 N10 hw hst had hCR hNC hml hmt hql hq
      rintro k m₁ news₁ h tk ⟨hml, RR, C, turn2, ti, u, y, hmr, hmt, hmw, k, Q, done, cur, own, ps, dref, cvs, capR, capC, hw, hst, hh⟩ F N
      have hlens := hh.lens hst
      have hRL : ∀ hp, News g L hp (own ++ (NL, W.listOf refs.toArray cap) :: (116, tabO 102 18 z.q.c) :: (RR, W.listOf (dref ++ [Value.ref C]).toArray capR) :: (C, W.listOf cvs.toArray capC) :: ps) → hp.IsList RR (dref ++ [Value.ref C]).toArray := fun hp N => ⟨_, (N (RR, W.listOf (dref ++ [Value.ref C]).toArray capR) (List.mem_append_right _ (.tail _ (.tail _ (.head _))))).1, rfl, capR, rfl⟩
      rcases hw with ⟨c, q', vs, npb3, hq'⟩ | ⟨l', pre, n', npb3, t', hp1, hp2⟩
      · obtain ⟨k, rfl⟩ := hst.pos
        have hc16 := hst.c16
        obtain ⟨hwn, hwl, hw0⟩ := wq_facts hc16
        have hhap := fun o3 o4 => hh.ad.hap (lx := 52) (od := z.od w ln tl) (opb := W.listOf vs.toArray npb3) (l := l) (n := n) (o1 := W.listOf refs.toArray cap) (o2 := tabO 102 18 z.q.c) (o3 := o3) (o4 := o4) hz.nd hPS hPl hPc
        k_steps
        unfold Hold
        (with_reducible rename Fr _ _ _ _ => F3)
        (with_reducible rename News _ _ _ _ => N3)
        refine wpAny_mono (Q := fun fl s' => RMid 52 116 102 18 w z ln tl l n NL (W.listOf refs.toArray cap) (runR fuel (posQ ns ++ [0]) [] []) g L s k fl s') ?mA (fun fl s' hm => ?mB) (fun _ _ e => e)
        (case mB =>
          clear F3 N3 hst hh hlens hRL hwn hwl hw0 hhap hml hmr hmt hmw hq'
          obtain ⟨h3, tk3, m3, hml3, RR2, C2, turn3, ti3, hmr3, hmt3, Q2, done2, cur2, ps2, vs2, dref2, cvs2, npb2, capR2, capC2, hq2, hst2, hh2, F3, N3⟩ := hm
          (repeat k_unfold)
          (try dsimp only)
          k_steps
          unfold Hold
          (with_reducible rename Fr _ _ _ _ => F4)
          (with_reducible rename News _ _ _ _ => N4)
          refine word_use w z hz hl hend hq2 hst2.hQ B F4 X T D N4 rfl rfl (lt_up 9 hd rfl) (lt_up 103 hu rfl) (hh2.ad.hap hz.nd hPS hPl hPc) ?_
          intro y5 u5 own5 h5 tk5 hw F5 N5
          clear F4 N4
          dsimp only
          (((try dsimp only); (with_reducible show wpAny _ _ _ _ _ _); k_fold))
          k_steps
          (try unfold Hold)
          dsimp only [TurnEnd]
          (with_reducible rename Fr _ _ _ _ => F6)
          (with_reducible rename News _ _ _ _ => N6)
          exact ⟨k, _, _, _, _, Nat.lt_succ_self k, rfl, F6, N6, .mk (by exact hml3) RR2 C2 turn3 ti3 u5 y5 (by exact hmr3) (by exact hmt3) (by rfl) k Q2 done2 cur2 own5 ps2 dref2 cvs2 capR2 capC2 hw hst2 hh2⟩)
        (case mA =>
          clear hwn
          by_cases hc0 : c = 0
          · subst hc0
            refine wpAny_If (wpAny_isTrue_Compare1 ?_)
            k_fold
            k_steps
            unfold Hold
            refine last_item (vs := dref) (x := .ref C) (hRL _ N3) ?_
            k_steps
            unfold Hold
            (with_reducible rename Fr _ _ _ _ => F4)
            (with_reducible rename News _ _ _ _ => N4)
            refine ne_intsK (us := []) (ms := []) ⟨_, (N4 (C, W.listOf cvs.toArray capC) (.tail _ (List.mem_append_right _ (.tail _ (.tail _ (.tail _ (.head _))))))).1, rfl, capC, rfl⟩ hh.hca ⟨_, (N4 _ (List.mem_cons_self ..)).1, rfl, _, rfl⟩ .nil (lt_up 67 hu rfl) ?_
            replace N4 := news_tl N4
            dsimp only
            by_cases hcur : cur = []
            · rw [decide_eq_true hcur]
              k_steps
              (try unfold Hold)
              exact .mk _ _ _ (by exact hml) RR C turn2 ti (by exact hmr) (by exact hmt) q' done cur ps vs dref cvs npb3 capR capC hq' (hst.zero_skip hcur) hh F4 N4
            · rw [decide_eq_false hcur]
              k_steps
              unfold Hold
              (with_reducible rename Fr _ _ _ _ => F5)
              (with_reducible rename News _ _ _ _ => N5)
              (with_reducible rename ∀ p : Addr × Obj, p ∈ _ → p.1 < _ => lA)
              have hnew := hh.new (capC := capC) (fun q hq => lA q (List.mem_append_right _ (.tail _ (.tail _ (.tail _ hq))))) (lA (RR, W.listOf (dref ++ [Value.ref C]).toArray capR) (List.mem_append_right _ (.tail _ (.tail _ (.head _)))))
              clear lA
              have hst' := hst.zero_push hcur
              refine app_mid (fs := [_, _]) F5 (news_ins3 N5) (own_apart hz.nd (Nat.lt_trans hh.ad.aN hh.ad.aR)) (hh.ad.fs hz.nd hPS) (hnew.ad.pR) (Nat.le_trans hlens.1 (by rw [PySem.sizeLine_eq]; decide)) ?_
              intro h7 F8 N8
              clear F5 N5
              replace N8 : News g _ h7 (z.own 52 (z.od w ln tl) (W.listOf vs.toArray npb3) l n ++ (NL, W.listOf refs.toArray cap) :: (116, tabO 102 18 z.q.c) :: (RR, W.listOf ((dref ++ [Value.ref C]) ++ [Value.ref _]).toArray (capR + 1)) :: (_, W.listOf #[] 0) :: (C, W.listOf cvs.toArray capC) :: ps) := N8
              dsimp only
              k_steps
              unfold Hold
              (with_reducible rename Fr _ _ _ _ => F9)
              (with_reducible rename News _ _ _ _ => N9)
              refine push_use w z hz hq' hst.tl.1 0 B F9 X T D N9 rfl rfl (lt_up 5 hd rfl) (lt_up 43 hu rfl) (hnew.ad.hap hz.nd hPS hPl hPc) ?_
              intro vv h10 tk10 hvv F10 N10
              clear F9 N9
              dsimp only
              k_steps
              (try unfold Hold)
              (with_reducible rename Fr _ _ _ _ => F11)
              (with_reducible rename News _ _ _ _ => N11)
              exact .mk _ _ _ (by exact hml) RR _ turn2 ti (by exact hmr) (by exact hmt) _ _ _ _ vv _ [] _ _ _ hvv hst' hnew F11 N11
          · obtain ⟨hw1, hw2⟩ := wq_half hc16 hc0
            refine wpAny_If (wpAny_isTrue_Compare1 ?_)
            k_fold
            k_steps
            unfold Hold
            (with_reducible rename Fr _ _ _ _ => F4)
            (with_reducible rename News _ _ _ _ => N4)
            rw [hw2]
            obtain ⟨vsc, tc, ec1, ec2⟩ := hz.code
            refine ctr_use (own := [(116, tabO 102 18 z.q.c), (z.q.c, z.oc)]) (rest := z.own8 52 (z.od w ln tl) (W.listOf vs.toArray npb3) l n ++ (NL, W.listOf refs.toArray cap) :: (RR, W.listOf (dref ++ [Value.ref C]).toArray capR) :: (C, W.listOf cvs.toArray capC) :: ps)
              (halved_k w z.q.c z.oc vsc tc hPc ec1 ec2 c (Nat.pos_of_ne_zero hc0) hc16 _ turn2 _) B F4 X T D (news_pickT N4 [10, 5, 0, 1, 2, 3, 4, 6, 7, 8, 9, 11, 12] 13 rfl) rfl rfl (lt_up 13 hd rfl) (lt_up 203 hu rfl) (hh.ad.hap8 hz.nd hPS hPl hPc) ?_
            rintro v own' h5 tk5 ⟨R, th, tb, capH⟩ F5 N5 _
            clear F4 N4
            replace N5 : News g _ h5 ((R, _) :: (z.own 52 (z.od w ln tl) (W.listOf vs.toArray npb3) l n ++ (NL, W.listOf refs.toArray cap) :: (116, tabO 102 18 z.q.c) :: (RR, W.listOf (dref ++ [Value.ref C]).toArray capR) :: (C, W.listOf cvs.toArray capC) :: ps)) := news_pickT N5 [0, 3, 4, 5, 6, 7, 2, 8, 9, 10, 11, 1, 12, 13] 14 rfl
            dsimp only
            (((try dsimp only); (with_reducible show wpAny _ _ _ _ _ _); k_fold))
            k_steps
            unfold Hold
            (with_reducible rename Fr _ _ _ _ => F6)
            (with_reducible rename News _ _ _ _ => N6)
            replace N6 := news_tl N6
            refine last_item (vs := dref) (x := .ref C) (hRL _ N6) ?_
            k_steps
            unfold Hold
            refine app_mid (fs := [_, _, _]) F6 N6 (own_apart hz.nd (Nat.lt_trans hh.ad.aN hh.ad.aC)) (hh.ad.fsC hz.nd hPS) (fun q hq => (hh.ad.aQ q hq).2) (Nat.le_trans hlens.2 (by rw [PySem.sizeLine_eq]; decide)) ?_
            intro h7 F8 N8
            clear F6 N6
            replace N8 : News g _ h7 (z.own 52 (z.od w ln tl) (W.listOf vs.toArray npb3) l n ++ (NL, W.listOf refs.toArray cap) :: (116, tabO 102 18 z.q.c) :: (RR, W.listOf (dref ++ [Value.ref C]).toArray capR) :: (C, W.listOf (cvs ++ [Value.int ((c % 2 : Nat) : Int) tb]).toArray (capC + 1)) :: ps) := N8
            have hbit := hh.bit ((c % 2 : Nat) : Int) tb
            dsimp only
            k_steps
            · unfold Hold
              rename (0 : Int) < ((c / 2 : Nat) : Int) => hcc
              have hcc' := half_pos.mp hcc
              have hst' := hst.half_push hc0 hcc'
              (with_reducible rename Fr _ _ _ _ => F9)
              (with_reducible rename News _ _ _ _ => N9)
              rw [wq_mul (c / 2) (Nat.lt_of_le_of_lt (Nat.div_le_self ..) hc16) (Nat.pos_of_ne_zero hcc')]
              refine push_use w z hz hq' hst.tl.1 (c / 2) B F9 X T D N9 rfl rfl (lt_up 5 hd rfl) (lt_up 43 hu rfl) (hhap _ _) ?_
              intro vv h10 tk10 hvv F10 N10
              clear F9 N9
              dsimp only
              k_steps
              (try unfold Hold)
              (with_reducible rename Fr _ _ _ _ => F11)
              (with_reducible rename News _ _ _ _ => N11)
              exact .mk _ _ _ (by exact hml) RR C _ _ (by exact hmr) (by rfl) _ _ _ _ vv _ _ _ _ _ hvv hst' hbit F11 N11
            · (try unfold Hold)
              rename ¬ (0 : Int) < ((c / 2 : Nat) : Int) => hcc
              have hst' := hst.half_end hc0 (Decidable.of_not_not (fun h => hcc (half_pos.mpr h)))
              (with_reducible rename Fr _ _ _ _ => F11)
              (with_reducible rename News _ _ _ _ => N11)
              exact .mk _ _ _ (by exact hml) RR C _ _ (by exact hmr) (by rfl) _ _ _ _ vs _ _ _ _ _ hq' hst' hbit F11 N11)
      · k_steps
        (try unfold Hold)
        (with_reducible rename Fr _ _ _ _ => F3)
        (with_reducible rename News _ _ _ _ => N3)
        (with_reducible rename ∀ p : Addr × Obj, p ∈ _ → p.1 < _ => lA)
        exact rounds_pack F3 N3 hp1 hp2 hh (lA (NL, W.listOf refs.toArray cap) (List.mem_append_right _ (.head _))) hst.fine))

end
-- part pl7
/-! the plain law of the second claim: what the words of the replies are -/
/-- a quoted word that ends within the signs at hand: the word, and what is left -/
noncomputable def quotedC : Nat → List Nat → List Nat → Option (List Nat × List Nat)
  | 0, _, _ => none
  | _ + 1, _, [] => none
  | k + 1, acc, c :: r => if c = 34 then some (acc, r) else if c = 92 then (match r with | [] => none | d :: r' => quotedC k (acc ++ [d]) r') else quotedC k (acc ++ [c]) r
theorem quotedC_of (X : List Nat) : ∀ (k : Nat) (acc l w r : List Nat), quotedC k acc l = some (w, r) → quoted acc (l ++ X) = (w, r ++ X)
  | 0, _, _, _, _, h => by cases h
  | _ + 1, _, [], _, _, h => by cases h
  | k + 1, acc, c :: l, w, r, h => by
    rw [quotedC.eq_def] at h
    dsimp only at h
    rw [List.cons_append, quoted.eq_def]
    dsimp only
    by_cases h34 : c = 34
    · rw [if_pos h34] at h ⊢
      cases h
      rfl
    · rw [if_neg h34] at h ⊢
      by_cases h92 : c = 92
      · rw [if_pos h92] at h ⊢
        cases l with
        | nil => cases h
        | cons d l => exact quotedC_of X k _ _ _ _ h
      · rw [if_neg h92] at h ⊢
        exact quotedC_of X k _ _ _ _ h
/-- a bare word of all the signs at hand -/
noncomputable def bareC : Nat → List Nat → List Nat → Option (List Nat)
  | 0, _, _ => none
  | _ + 1, acc, [] => some acc
  | k + 1, acc, c :: r => if isWs c then none else if c = 92 then (match r with | [] => none | d :: r' => bareC k (acc ++ [d]) r') else bareC k (acc ++ [c]) r
theorem bareC_of (X : List Nat) : ∀ (k : Nat) (acc l w : List Nat), bareC k acc l = some w → bare acc (l ++ 10 :: X) = (w, X)
  | 0, _, _, _, h => by cases h
  | _ + 1, acc, [], w, h => by
    cases h
    rw [List.nil_append, bare.eq_def]
    rfl
  | k + 1, acc, c :: l, w, h => by
    rw [bareC.eq_def] at h
    dsimp only at h
    rw [List.cons_append, bare.eq_def]
    dsimp only
    by_cases hw : isWs c = true
    · rw [if_pos hw] at h; cases h
    · rw [if_neg hw] at h ⊢
      by_cases h92 : c = 92
      · rw [if_pos h92] at h ⊢
        cases l with
        | nil => cases h
        | cons d l => exact bareC_of X k _ _ _ h
      · rw [if_neg h92] at h ⊢
        exact bareC_of X k _ _ _ h
/-- the word of a reply's text, and whether its line end is left -/
noncomputable def wordC (l : List Nat) : Option (List Nat × Bool) := match l with
  | [] => none
  | c :: r => if c = 34 then (match quotedC 100 [] r with | some (w, []) => some (w, true) | _ => none) else
    if isWs c || c == 92 then none else (bareC 100 [c] r).map fun w => (w, false)
theorem wordC_of (X : List Nat) {l w : List Nat} {b : Bool} (h : wordC l = some (w, b)) : token (l ++ 10 :: X) = (w, if b then 10 :: X else X) := by
  unfold wordC at h
  cases l with
  | nil => cases h
  | cons c r =>
    dsimp only at h
    rw [List.cons_append, token.eq_def]
    dsimp only
    by_cases h34 : c = 34
    · subst h34
      rw [if_pos rfl] at h
      rw [if_neg (by decide), if_pos rfl]
      split at h
      · rename_i w' hq
        cases h
        rw [quotedC_of (10 :: X) _ _ _ _ _ hq]; rfl
      · cases h
    · rw [if_neg h34] at h
      by_cases hw : (isWs c || c == 92) = true
      · rw [if_pos hw] at h; cases h
      · rw [if_neg hw] at h
        have hw1 : isWs c = false := by cases hc : isWs c <;> simp_all
        have hw2 : c ≠ 92 := by intro e; subst e; simp at hw
        rw [if_neg (by rw [hw1]; exact Bool.false_ne_true), if_neg h34, if_neg hw2]
        cases hb : bareC 100 [c] r with
        | none => rw [hb] at h; cases h
        | some w' =>
          rw [hb] at h
          cases h
          rw [bareC_of X _ _ _ _ hb]; rfl
/-- what is read of a reply -/
noncomputable def okRep (k n m : Nat) : Bool := match wordC (repS k n m).cps.toList with
  | none => false
  | some (w, _) => numOf (strOf w) == repN k n && !w.isEmpty && (repS k n m).length ≤ 60 && (repS k n m).cps.toList.all (fun c => decide (c < 128) && c != 10)
theorem okRep0 : ∀ n < 16, ∀ m < 3, okRep 0 n m = true := by decide +kernel
theorem okRep1 : ∀ n < 16, ∀ m < 3, okRep 1 n m = true := by decide +kernel
theorem okRep2 : ∀ n < 16, ∀ m < 3, okRep 2 n m = true := by decide +kernel
theorem okRep3 : ∀ n < 16, ∀ m < 3, okRep 3 n m = true := by decide +kernel
theorem okRep4 : ∀ n < 16, ∀ m < 3, okRep 4 n m = true := by decide +kernel
theorem okRep5 : ∀ n < 16, ∀ m < 3, okRep 5 n m = true := by decide +kernel
theorem okRep6 : ∀ n < 16, ∀ m < 3, okRep 6 n m = true := by decide +kernel
theorem okRep7 : ∀ n < 16, ∀ m < 3, okRep 7 n m = true := by decide +kernel
theorem all_succ {P : Nat → Prop} {n : Nat} (h : ∀ k < n, P k) (hn : P n) : ∀ k < n + 1, P k := fun k hk => (Nat.lt_succ_iff_lt_or_eq.mp hk).elim (h k) fun e => e ▸ hn
theorem okRep_all {k n m : Nat} (hk : k < 8) (hn : n < 16) (hm : m < 3) : okRep k n m = true :=
  all_succ (P := fun k => ∀ n < 16, ∀ m < 3, okRep k n m = true) (all_succ (all_succ (all_succ (all_succ (all_succ (all_succ (all_succ (fun k h => absurd h (Nat.not_lt_zero k)) okRep0) okRep1) okRep2) okRep3) okRep4) okRep5) okRep6) okRep7 k hk n hn m hm

-- part pl8
/-- a reply that was laid: its kind, its number, its mark -/
structure Rp where
  (k n m : Nat)
  hk : k < 8
  hn : n < 16
  hm : m < 3
noncomputable def Rp.text (r : Rp) : List Nat := (repS r.k r.n r.m).cps.toList
noncomputable def Rp.num (r : Rp) : Int := repN r.k r.n
/-- what stands behind the replies -/
noncomputable def tailL : List Nat := [34, 34, 10, 101, 110, 100, 10, 101, 110, 100, 10]
noncomputable def textL : List Rp → List Nat
  | [] => tailL
  | r :: rs => r.text ++ 10 :: textL rs
theorem rp_word (r : Rp) (X : List Nat) : ∃ (w : List Nat) (b : Bool), w ≠ [] ∧ numOf (strOf w) = r.num ∧ token (r.text ++ 10 :: X) = (w, if b then 10 :: X else X) := by
  have h := okRep_all r.hk r.hn r.hm
  unfold okRep at h
  cases hw : wordC (repS r.k r.n r.m).cps.toList with
  | none => rw [hw] at h; cases h
  | some q =>
    obtain ⟨w, b⟩ := q
    rw [hw] at h
    simp only [Bool.and_eq_true, beq_iff_eq, Bool.not_eq_true', List.isEmpty_eq_false_iff] at h
    exact ⟨w, b, h.1.1.2, h.1.1.1, wordC_of X hw⟩
theorem rp_len (r : Rp) : (r.text.length ≤ 60 ∧ ∀ c ∈ r.text, c < 128) ∧ r.text.count 10 = 0 := by
  have h := okRep_all r.hk r.hn r.hm
  unfold okRep at h
  cases hw : wordC (repS r.k r.n r.m).cps.toList with
  | none => rw [hw] at h; cases h
  | some q =>
    rw [hw] at h
    simp only [Bool.and_eq_true, decide_eq_true_eq, List.all_eq_true, bne_iff_ne] at h
    refine ⟨⟨?_, fun c hc => (h.2 c hc).1⟩, List.count_eq_zero.mpr fun hm => (h.2 10 hm).2 rfl⟩
    show (repS r.k r.n r.m).cps.toList.length ≤ 60
    have h2 := len_toList (repS r.k r.n r.m)
    have h3 := h.1.2
    omega
noncomputable def restL : List Nat := [10, 101, 110, 100, 10, 101, 110, 100, 10]
noncomputable def restL2 : List Nat := [101, 110, 100, 10]
theorem token_10 (X : List Nat) : token (10 :: X) = token X := token_ws rfl
theorem token_tail : token tailL = ([], restL) := by
  simp [tailL, token, quoted, isWs, restL]
theorem token_rest : token restL = ([101, 110, 100], restL2) := by
  simp [restL, restL2, token, bare, isWs]
theorem token_rest2 : token restL2 = ([101, 110, 100], []) := by
  simp [restL2, token, bare, isWs]
/-- what the replies tell is what was laid -/
theorem nums_text : ∀ (rs : List Rp) (f : Nat) (l : List Nat), (l = textL rs ∨ l = 10 :: textL rs) → rs.length < f → numsT f (token l).1 (token l).2 = (rs.map Rp.num, restL)
  | [], f + 1, l, hl, _ => by
    have : token l = ([], restL) := by
      rcases hl with rfl | rfl
      · exact token_tail
      · rw [token_10]; exact token_tail
    rw [this]; rfl
  | r :: rs, f + 1, l, hl, hf => by
    obtain ⟨w, b, hw, hn, ht⟩ := rp_word r (textL rs)
    have : token l = (w, if b then 10 :: textL rs else textL rs) := by
      rcases hl with rfl | rfl
      · exact ht
      · rw [token_10]; exact ht
    rw [this, numsT, if_neg hw]
    have ih := nums_text rs f (if b then 10 :: textL rs else textL rs) (by cases b <;> simp) (by simp only [List.length_cons] at hf; omega)
    dsimp only
    rw [ih, hn]
    rfl
theorem text_len : ∀ rs : List Rp, rs.length + 11 ≤ (textL rs).length ∧ (textL rs).length ≤ rs.length * 61 + 11 ∧ ∀ c ∈ textL rs, c < 128
  | [] => ⟨by decide, by decide, by decide⟩
  | r :: rs => by
    have h := text_len rs
    have h2 := (rp_len r).1
    simp only [textL, List.length_append, List.length_cons]
    refine ⟨by omega, by omega, fun c hc => ?_⟩
    rcases List.mem_append.mp hc with h3 | h3
    · exact h2.2 c h3
    · rcases List.mem_cons.mp h3 with rfl | h3
      · decide
      · exact h.2.2 c h3
theorem nums_all (rs : List Rp) : numsL (textL rs) = (rs.map Rp.num, restL) :=
  nums_text rs _ _ (.inl rfl) (by have := (text_len rs).1; omega)
theorem num_range (r : Rp) : -3 ≤ r.num ∧ r.num < 16 := by
  have := r.hn
  unfold Rp.num repN
  repeat' split
  all_goals omega
/-- how many line ends the replies' text has, up to the words that end -/
theorem nls_text : ∀ rs : List Rp, nls (textL rs) = rs.length + 3
  | [] => by decide
  | r :: rs => by
    have ih := nls_text rs
    have h1 := (rp_len r).2
    unfold nls at ih ⊢
    rw [textL, List.count_append, h1, List.count_cons_self, List.length_cons]
    omega

-- part pl9
/-! the rounds, in plain words -/
noncomputable def bitsQ (q : List Nat) : List Int := q.map fun n => ((n % 2 : Nat) : Int)
noncomputable def halvesQ (q : List Nat) : List Nat := (q.map (· / 2)).filter (0 < ·)
theorem run_phase : ∀ (q t : List Nat) (f : Nat) (d : List (List Int)) (c : List Int), (∀ n ∈ q, 0 < n) → runR (q.length + f) (q ++ 0 :: t) d c = runR f (0 :: (t ++ halvesQ q)) d (c ++ bitsQ q)
  | [], t, f, d, c, _ => by simp [halvesQ, bitsQ]
  | n :: q, t, f, d, c, h => by
    have hn : ¬ n = 0 := Nat.ne_of_gt (h n (List.mem_cons_self ..))
    have h' : ∀ n ∈ q, 0 < n := fun m hm => h m (List.mem_cons_of_mem _ hm)
    rw [List.length_cons, show q.length + 1 + f = (q.length + f) + 1 from by omega, List.cons_append, runR_cons, if_neg hn]
    by_cases h2 : n / 2 = 0
    · rw [if_pos h2, run_phase q t f d _ h']
      simp [halvesQ, bitsQ, h2]
    · rw [if_neg h2, List.append_assoc, List.cons_append, run_phase q (t ++ [n / 2]) f d _ h']
      have : 0 < n / 2 := Nat.pos_of_ne_zero h2
      simp [halvesQ, bitsQ, this]
theorem ok_phase : ∀ (q t : List Nat) (f : Nat) (c : List Int), (∀ n ∈ q, 0 < n) → okR f (0 :: (t ++ halvesQ q)) (c ++ bitsQ q) → okR (q.length + f) (q ++ 0 :: t) c
  | [], t, f, c, _, h => by simpa [halvesQ, bitsQ] using h
  | n :: q, t, f, c, h, hk => by
    have hn : ¬ n = 0 := Nat.ne_of_gt (h n (List.mem_cons_self ..))
    have h' : ∀ n ∈ q, 0 < n := fun m hm => h m (List.mem_cons_of_mem _ hm)
    rw [List.length_cons, show q.length + 1 + f = (q.length + f) + 1 from by omega, List.cons_append, okR_cons, if_neg hn]
    by_cases h2 : n / 2 = 0
    · rw [if_pos h2]
      refine ok_phase q t f _ h' ?_
      simpa [halvesQ, bitsQ, h2] using hk
    · rw [if_neg h2, List.append_assoc, List.cons_append]
      refine ok_phase q (t ++ [n / 2]) f _ h' ?_
      have : 0 < n / 2 := Nat.pos_of_ne_zero h2
      simpa [halvesQ, bitsQ, this] using hk
noncomputable def linesQ : Nat → List Nat → List (List Int)
  | 0, _ => []
  | b + 1, q => if q = [] then [] else bitsQ q :: linesQ b (halvesQ q)
theorem halves_lt {b : Nat} {q : List Nat} (h : ∀ n ∈ q, n < 2 ^ (b + 1)) : ∀ n ∈ halvesQ q, 0 < n ∧ n < 2 ^ b := by
  intro n hn
  obtain ⟨h1, h2⟩ := List.mem_filter.mp hn
  obtain ⟨m, hm, rfl⟩ := List.mem_map.mp h1
  exact ⟨of_decide_eq_true h2, Nat.div_lt_of_lt_mul (by rw [Nat.mul_comm]; exact h m hm)⟩
theorem halves_len (q : List Nat) : (halvesQ q).length ≤ q.length := by
  unfold halvesQ
  exact Nat.le_trans (List.length_filter_le ..) (by rw [List.length_map]; exact Nat.le_refl _)
theorem linesQ_succ {b : Nat} {q : List Nat} : linesQ (b + 1) q = if q = [] then [] else bitsQ q :: linesQ b (halvesQ q) := rfl
theorem run_nil (f : Nat) (d : List (List Int)) : runR (f + 1) [0] d [] = (d, []) ∧ okR (f + 1) [0] [] := by cases f <;> exact ⟨rfl, trivial⟩
theorem run_all (b : Nat) : ∀ (q : List Nat) (f : Nat) (d : List (List Int)), (∀ n ∈ q, 0 < n ∧ n < 2 ^ b) → q.length ≤ 5 → b * 6 + 1 ≤ f → runR f (q ++ [0]) d [] = (d ++ linesQ b q, []) ∧ okR f (q ++ [0]) [] := by
  induction b with
  | zero =>
    intro q f d hq hl hf
    cases q with
    | nil =>
      obtain ⟨f', rfl⟩ : ∃ f', f = f' + 1 := ⟨f - 1, (Nat.succ_pred_eq_of_pos hf).symm⟩
      have h := run_nil f' d
      exact ⟨h.1.trans (by rw [show linesQ 0 [] = [] from rfl, List.append_nil]), h.2⟩
    | cons n q => exact absurd (Nat.lt_of_lt_of_le (hq n (List.mem_cons_self ..)).2 (hq n (List.mem_cons_self ..)).1) (Nat.lt_irrefl _)
  | succ b ih =>
    intro q f d hq hl hf
    obtain ⟨f', rfl⟩ : ∃ f', f = q.length + (f' + 1) := ⟨f - q.length - 1, by omega⟩
    by_cases h0 : q = []
    · subst h0
      have h := run_nil (0 + f') d
      exact ⟨h.1.trans (by rw [show linesQ (b + 1) [] = [] from rfl, List.append_nil]), h.2⟩
    · have hb : bitsQ q ≠ [] := fun e => h0 (List.map_eq_nil_iff.mp e)
      have ih := ih (halvesQ q) f' (d ++ [bitsQ q]) (halves_lt fun n hn => (hq n hn).2) (Nat.le_trans (halves_len q) hl) (by omega)
      have ok := ok_phase q [] (f' + 1) [] fun n hn => (hq n hn).1
      rw [List.nil_append, List.nil_append, okR_cons, if_pos rfl, if_neg hb] at ok
      rw [run_phase q [] (f' + 1) d [] fun n hn => (hq n hn).1, List.nil_append, List.nil_append, runR_cons, if_pos rfl, if_neg hb]
      exact ⟨ih.1.trans (by rw [linesQ_succ, if_neg h0, List.append_assoc]; rfl), ok ih.2⟩
/-- the figures of a rank -/
noncomputable def figQ (q : List Nat) (r : Nat) : List Int := (q.filter fun n => 2 ^ r ≤ n).map fun n => ((n / 2 ^ r % 2 : Nat) : Int)
theorem fig_zero {q : List Nat} (h : ∀ n ∈ q, 0 < n) : figQ q 0 = bitsQ q := by
  unfold figQ bitsQ
  rw [List.filter_eq_self.mpr fun n hn => by have := h n hn; simp only [Nat.pow_zero, decide_eq_true_eq]; omega]
  simp
theorem fig_succ (q : List Nat) (r : Nat) : figQ q (r + 1) = figQ (halvesQ q) r := by
  unfold figQ halvesQ
  induction q with
  | nil => rfl
  | cons n q ih =>
    have e1 : (2 ^ (r + 1) ≤ n) = (2 ^ r ≤ n / 2) := propext (Nat.le_div_iff_mul_le (by decide)).symm
    have e2 : n / 2 ^ (r + 1) = n / 2 / 2 ^ r := by rw [Nat.pow_succ, Nat.mul_comm, Nat.div_div_eq_div_mul]
    have hp : 0 < 2 ^ r := Nat.two_pow_pos r
    by_cases h : 2 ^ r ≤ n / 2
    · have h0 : 0 < n / 2 := Nat.lt_of_lt_of_le hp h
      simp only [List.filter_cons, List.map_cons, e1, h, h0, decide_true, if_true, e2]
      rw [ih]
    · by_cases h0 : 0 < n / 2
      · simp only [List.filter_cons, List.map_cons, e1, h, h0, decide_true, decide_false, if_true, Bool.false_eq_true, if_false]
        exact ih
      · simp only [List.filter_cons, List.map_cons, e1, h, h0, decide_false, Bool.false_eq_true, if_false]
        exact ih
theorem lines_fig : ∀ (b : Nat) (q : List Nat), (∀ n ∈ q, 0 < n) → linesQ b q = ((List.range b).map (figQ q)).filter fun c => !c.isEmpty
  | 0, _, _ => rfl
  | b + 1, q, h => by
    rw [linesQ_succ, List.range_succ_eq_map, List.map_cons, List.map_map, List.filter_cons, fig_zero h]
    have hm : (figQ q ∘ Nat.succ) = figQ (halvesQ q) := funext fun r => fig_succ q r
    rw [hm]
    have hh : ∀ n ∈ halvesQ q, 0 < n := fun n hn => by simpa using (List.mem_filter.mp hn).2
    by_cases h0 : q = []
    · subst h0
      rw [if_pos rfl, ← lines_fig b (halvesQ []) hh]
      cases b <;> rfl
    · have hb : (bitsQ q).isEmpty = false := by
        unfold bitsQ; cases q with
        | nil => exact absurd rfl h0
        | cons _ _ => rfl
      rw [if_neg h0, hb, lines_fig b (halvesQ q) hh]
      rfl

-- part pl10
/-- a line of the text: a reply and its line end -/
noncomputable def lnS (r : Rp) : Str := repS r.k r.n r.m ++ Str.ofString "\n"
theorem lines_flat : ∀ rs : List Rp, (rs.map lnS).flatMap (·.cps.toList) ++ tailL = textL rs
  | [] => rfl
  | r :: rs => by
    have h1 : (Str.ofString "\n").cps.toList = [10] := by decide +kernel
    rw [List.map_cons, List.flatMap_cons, List.append_assoc, lines_flat rs, lnS, Str.cps_append, Array.toList_append, h1, List.append_assoc]
    rfl
theorem text_eq (rs : List Rp) : (Txt.join (Str.ofString "") (rs.map lnS) ++ Str.ofString "\"\"\nend\nend\n" : Str).cps.toList = textL rs := by
  have h0 : Str.ofString "" = ⟨#[]⟩ := by decide +kernel
  have h1 : (Str.ofString "\"\"\nend\nend\n").cps.toList = tailL := by decide +kernel
  rw [Str.cps_append, Array.toList_append, h1, h0, show Txt.join ⟨#[]⟩ (rs.map lnS) = Str.join ⟨#[]⟩ (rs.map lnS) from StrLaws.glued_eq_join _ _, join_flat, lines_flat]
theorem rep_len (r : Rp) : (repS r.k r.n r.m).length ≤ 60 := by
  rw [len_toList]; exact (rp_len r).1.1
theorem line_len (r : Rp) : (lnS r).length ≤ 61 := by
  have h := (rp_len r).1.1
  have h1 : (Str.ofString "\n").length = 1 := by decide
  rw [lnS, Str.length_append, h1]
  rw [len_toList]
  exact Nat.succ_le_succ h
theorem lines_len : ∀ rs : List Rp, ((rs.map lnS).map (·.length)).sum ≤ rs.length * 61
  | [] => Nat.le_refl _
  | r :: rs => by
    have h1 := line_len r
    have h2 := lines_len rs
    simp only [List.map_cons, List.sum_cons, List.length_cons]
    omega
theorem lines_fit {rs : List Rp} (h : rs.length ≤ 5) : ((rs.map lnS).map (·.length)).sum + (rs.map lnS).length * 64 ≤ 16777216 := by
  have := lines_len rs
  rw [List.length_map]
  omega
theorem text_fit {rs : List Rp} (h : rs.length ≤ 5) {x : Str} (hx : x.cps.toList = textL rs) : x.length ≤ 600 ∧ (textL rs).length ≤ 600 := by
  have := text_len rs
  rw [len_toList, hx]
  omega
theorem join_len {rs : List Rp} (h : rs.length ≤ 5) : (Txt.join (Str.ofString "") (rs.map lnS)).length ≤ 600 ∧ (Txt.join (Str.ofString "") (rs.map lnS) ++ Str.ofString "\"\"\nend\nend\n" : Str).length ≤ 5000 := by
  have h1 := (text_fit h (text_eq rs)).1
  rw [Str.length_append] at h1 ⊢
  omega
/-- a figure of the numbers that were told, as the law counts it -/
noncomputable def figI (ns : List Int) (r : Nat) : List Int := (ns.filter fun n => 2 ^ r ≤ n).map fun n => (n.fdiv (2 ^ r)).fmod 2
theorem figI_eq (ns : List Int) (r : Nat) : figI ns r = figQ (posQ ns) r := by
  unfold figI figQ posQ
  induction ns with
  | nil => rfl
  | cons n ns ih =>
    have hp : 0 < (2 : Int) ^ r := Int.pow_pos (by decide)
    by_cases h0 : 0 < n
    · obtain ⟨k, rfl⟩ : ∃ k : Nat, n = k := ⟨n.toNat, by omega⟩
      have e1 : (2 ^ r ≤ (k : Int)) = (2 ^ r ≤ k) := by
        rw [show (2 : Int) ^ r = ((2 ^ r : Nat) : Int) by simp]
        exact propext Int.ofNat_le
      have e2 : ((k : Int).fdiv (2 ^ r)).fmod 2 = ((k / 2 ^ r % 2 : Nat) : Int) := by
        rw [show (2 : Int) ^ r = ((2 ^ r : Nat) : Int) by simp, Int.fdiv_eq_ediv_of_nonneg _ (Int.natCast_nonneg _), ← Int.natCast_ediv, Int.fmod_eq_emod_of_nonneg _ (by decide)]
        exact (Int.natCast_emod ..).symm
      by_cases h : 2 ^ r ≤ k
      · simp only [List.filter_cons, List.map_cons, e1, h, h0, decide_true, if_true, Int.toNat_natCast, e2]
        rw [ih]
      · simp only [List.filter_cons, List.map_cons, e1, h, h0, decide_true, decide_false, if_true, Bool.false_eq_true, if_false, Int.toNat_natCast]
        exact ih
    · have h : ¬ 2 ^ r ≤ n := by omega
      simp only [List.filter_cons, h, h0, decide_false, Bool.false_eq_true, if_false]
      exact ih
/-- what is due -/
noncomputable def dueQ (q : List Nat) : List (List Int) := (((List.range 4).map (figQ q)).filter fun c => !c.isEmpty) ++ [[]]
theorem posQ_ok (rs : List Rp) (h : rs.length ≤ 5) : (∀ n ∈ posQ (rs.map Rp.num), 0 < n ∧ n < 2 ^ 4) ∧ (posQ (rs.map Rp.num)).length ≤ 5 := by
  refine ⟨fun n hn => ?_, Nat.le_trans (posQ_len _) (by rw [List.length_map]; exact h)⟩
  obtain ⟨i, hi, rfl⟩ := List.mem_map.mp hn
  obtain ⟨h1, h2⟩ := List.mem_filter.mp hi
  obtain ⟨r, _, rfl⟩ := List.mem_map.mp h1
  have := num_range r
  have h3 : 0 < r.num := by simpa using h2
  omega
theorem rounds_due (rs : List Rp) (h : rs.length ≤ 5) : okR 30 (posQ (rs.map Rp.num) ++ [0]) [] ∧ (runR 30 (posQ (rs.map Rp.num) ++ [0]) [] []).1 ++ [(runR 30 (posQ (rs.map Rp.num) ++ [0]) [] []).2] = dueQ (posQ (rs.map Rp.num)) := by
  obtain ⟨h1, h2⟩ := posQ_ok rs h
  obtain ⟨h3, h4⟩ := run_all 4 (posQ (rs.map Rp.num)) 30 [] h1 h2 (by decide)
  refine ⟨h4, ?_⟩
  rw [h3, List.nil_append, lines_fig 4 _ fun n hn => (h1 n hn).1]
  rfl
/-- the lines read up to the empty word -/
theorem nls_pre {rs : List Rp} {l pre l' : List (Nat × Tok)} (h : l.map (·.1) = textL rs) (hp : l = pre ++ l') (hl : l'.map (·.1) = restL) : nls (pre.map (·.1)) = rs.length := by
  have h1 := nls_text rs
  rw [← h, hp, List.map_append, nls_app, hl, show nls restL = 3 by decide] at h1
  omega
theorem nls_rest {l pre l' : List (Nat × Tok)} (h : l.map (·.1) = restL) (hp : l = pre ++ l') (hl : l'.map (·.1) = (token (l.map (·.1))).2) : nls (pre.map (·.1)) = 2 ∧ l'.map (·.1) = restL2 := by
  rw [h, token_rest] at hl
  have h1 : nls (l.map (·.1)) = 3 := by rw [h]; decide
  rw [hp, List.map_append, nls_app, hl, show nls restL2 = 1 by decide] at h1
  exact ⟨by omega, hl⟩
theorem nls_rest2 {l pre l' : List (Nat × Tok)} (h : l.map (·.1) = restL2) (hp : l = pre ++ l') (hl : l'.map (·.1) = (token (l.map (·.1))).2) : nls (pre.map (·.1)) = 1 := by
  rw [h, token_rest2] at hl
  have h1 : nls (l.map (·.1)) = 1 := by rw [h]; decide
  rw [hp, List.map_append, nls_app, hl, show nls ([] : List Nat) = 0 by decide] at h1
  omega

theorem top_off_claw2 : True := by
  w_top off
  exact True.intro
-- part claw2
section
local macro_rules | `(tactic| walk_at $s:str) => if ["eval ListComp", "exec Assign cons ListComp", "call builtin:str.join", "call builtin:len", "subscriptTail Name Slice ref ref", "subscriptTail BinOp Slice ref ref", "subscriptTail Name Constant ref int", "CompSrcT", "CompSrc", "CellSrc", "SkipEnd", "CellTurn", "EltEnd", "CompEnd", "LawA", "LawB", "LawC", "LawD", "compareOp NotEq ref ref", "compareOp Eq ref ref"].contains s.getString then `(tactic| refine Hold.mk ?_) else Lean.Macro.throwUnsupported
local macro_rules | `(tactic| walk_at "eval Name") => `(tactic| (k_here; (with_reducible show wpAny _ _ (eval (Expr.Name (Str.ofString "told") _) (envOfC _ _ _ _ _)) _ _ _); k_dflt (refine' nameX_C ?N ?c ?m ?d ?_ ?a ?b; (case a => rfl); (case b => rfl); (case N => k_asm); (case c => rfl); (case m => k_mem); (case d => with_reducible assumption); k_whole)))
local macro_rules | `(tactic| walk_at "subscriptTail") => `(tactic| ((with_reducible show wpAny _ _ (subscriptTail (Expr.BinOp _ _ _ _) (Expr.Slice _ _ _ _) _ _) _ _ _); refine kba_turn (value' := PySem.Expr.Name (PySem.Str.ofString "_") ⟨0, 0, 0, 0⟩) (fun _ => rfl) ?_))
local macro_rules | `(tactic| walk_at "storeName") => `(tactic| ((with_reducible show wpAny _ _ (storeName (envOfC _ _ _ _ _) (Str.ofString "told") _) _ _ _); refine Hold.mk ?_))
noncomputable def LawPost (P a b : Addr) (v : Value) (own' : List (Addr × Obj)) : Prop := v = .bool true ∧ Tabs P a b own'
/-- the replies that were laid, with their objects -/
inductive RepsAre : List Value → List (Addr × Obj) → List Rp → Prop
  | nil : RepsAre [] [] []
  | snoc {ys : List Value} {ps : List (Addr × Obj)} {rs : List Rp} (a : Addr) (r : Rp) (t1 t2 : Tok) : RepsAre ys ps rs → RepsAre (ys ++ [.ref a]) ((a, W.listOf #[.str (repS r.k r.n r.m) t1, .int r.num t2] 0) :: ps) (rs ++ [r])
theorem RepsAre.len {ys : List Value} {ps : List (Addr × Obj)} {rs : List Rp} (h : RepsAre ys ps rs) : rs.length = ys.length := by
  induction h with
  | nil => rfl
  | snoc a r t1 t2 _ ih => simp [ih]
/-- one of them -/
inductive RepAt (ps : List (Addr × Obj)) (rs : List Rp) (i : Nat) : Value → Prop
  | mk (a : Addr) (r : Rp) (t1 t2 : Tok) (hr : rs[i]? = some r) (hm : (a, W.listOf #[.str (repS r.k r.n r.m) t1, .int r.num t2] 0) ∈ ps) : RepAt ps rs i (.ref a)
theorem RepsAre.at {ys : List Value} {ps : List (Addr × Obj)} {rs : List Rp} (h : RepsAre ys ps rs) : ∀ {i : Nat} {v : Value}, ys[i]? = some v → RepAt ps rs i v := by
  induction h with
  | nil => intro i v e; simp at e
  | snoc a r t1 t2 h ih =>
    intro i v e
    rcases snoc_at e with ⟨_, h1⟩ | ⟨rfl, rfl⟩
    · obtain ⟨a', r', t1', t2', hr, hm⟩ := ih h1
      have hlt := (List.getElem?_eq_some_iff.mp hr).1
      exact ⟨a', r', t1', t2', by rw [List.getElem?_append_left hlt]; exact hr, .tail _ hm⟩
    · exact ⟨a, r, t1, t2, by rw [← h.len]; simp, .head _⟩
inductive RepJ (D1 L P : Addr) (its : Array Value) (oT : Obj) : List Value → List (Addr × Obj) → Prop
  | mk (ys : List Value) (ps : List (Addr × Obj)) (rs : List Rp) (h : RepsAre ys ps rs) : RepJ D1 L P its oT ys (ps ++ [(D1, W.listOf its 0), (L + 1, oT), (P, tabObj #[])])
/-- the replies are laid -/
inductive LawA (g : Heap) (L P : Addr) (s : Shared) : Flow → Shared → Prop
  | mk (h : Heap) (tk : Nat) (m : Str → Option Value) (ys : List Value) (ps : List (Addr × Obj)) (rs : List Rp) (D : Addr) (oT : Obj) (hr : RepsAre ys ps rs) (hl : rs.length ≤ 5) (F : Fr g L h m) (N : News g L h ((D, LCg.lst ys) :: (L + 1, oT) :: (P, tabObj #[]) :: ps)) (hT : oT.data = .cell none)
    (h1 : m (Str.ofString "replies") = some (.ref D)) : LawA g L P s .next { s with heap := h, toks := tk }
theorem Tabs.grown {P a b : Addr} {tl : List (Addr × Obj)} (h : Tabs P a b tl) : ∃ ps, (P, tabObj ps) ∈ tl := by
  rcases h with rfl | ⟨c, oc, vs, t, -, rfl, -, -⟩
  · exact ⟨_, List.mem_cons_self ..⟩
  · exact ⟨_, List.mem_cons_self ..⟩
theorem news_mv {g h : Heap} {L : Addr} {own c : List (Addr × Obj)} {x : Addr × Obj} (N : News g L h ((x :: own) ++ c)) : News g L h (own ++ x :: c) := fun q hq => N q (by
  simp only [List.mem_append, List.mem_cons, List.cons_append] at hq ⊢
  rcases hq with h | h | h <;> simp only [h, true_or, or_true])
/-- the addresses of a lexer -/
noncomputable def Lx.adr (z : Lx) : List Addr := [z.dx, z.pb, z.S, z.x, z.F, z.q.c, z.y, z.dy, z.cl]
/-- a lexer, apart from what was there ahead of it -/
structure LexAt (prog : Program) (w : World) (K : Frag) (p : Program) (loose : List Str) (mean : ExcName → Option Value) (mg mb : Str → Option Value) (P : Addr) (z : Lx) (as : List Addr) : Prop where
  hz : z.Ok prog w K p loose mean mg mb
  hS : @LT.lt Nat _ P z.S
  hl : @LT.lt Nat _ P z.cl
  hc : @LT.lt Nat _ P z.q.c
  ap : ∀ a ∈ as, a ∉ z.adr ∧ a ≠ P
theorem LexAt.of {prog : Program} {w : World} {K : Frag} {p : Program} {loose : List Str} {mean : ExcName → Option Value} {mg mb : Str → Option Value} {P lx : Addr} {z : Lx} {od opb oP oP' : Obj} {l : List (Nat × Tok)} {n : Nat} {rest : List (Addr × Obj)} (hz : z.Ok prog w K p loose mean mg mb) (hS : @LT.lt Nat _ P z.S)
    (hl : @LT.lt Nat _ P z.cl) (hc : @LT.lt Nat _ P z.q.c) (h0 : ∀ q ∈ rest, q.1 ≠ P) (h : ∀ a ∈ (P, oP') :: z.own lx od opb l n, a.1 ∈ ([(P, oP)] : List (Addr × Obj)).map (·.1) ∨ ∀ q ∈ rest, a.1 ≠ q.1) : LexAt prog w K p loose mean mg mb P z (rest.map (·.1)) := by
  refine ⟨hz, hS, hl, hc, fun a ha => ?_⟩
  obtain ⟨q, hq, rfl⟩ := List.mem_map.mp ha
  refine ⟨fun hm => ?_, h0 q hq⟩
  obtain ⟨o, ho, e⟩ := List.mem_map.mp (show q.1 ∈ (z.own lx od opb l n).map (·.1) from hm)
  rcases h o (.tail _ ho) with h1 | h1
  · have h2 : o.1 = P := List.mem_singleton.mp h1
    exact h0 q hq (e.symm.trans h2)
  · exact h1 q hq e
/-- the text of the replies lies in a lexer -/
inductive LawB (prog : Program) (w : World) (K : Frag) (p : Program) (loose : List Str) (mean : ExcName → Option Value) (mg mb : Str → Option Value) (g : Heap) (L lx P a b : Addr) (s : Shared) : Flow → Shared → Prop
  | mk (h : Heap) (tk : Nat) (m : Str → Option Value) (ys : List Value) (ps : List (Addr × Obj)) (rs : List Rp) (D : Addr) (oT : Obj) (z : Lx) (zt : Tok) (l : List (Nat × Tok)) (n : Nat) (hr : RepsAre ys ps rs) (hl : rs.length ≤ 5) (ht : l.map (·.1) = textL rs) (F : Fr g L h m)
    (N : News g L h (z.own lx (z.od w 1 zt) (W.listOf #[] 0) l n ++ (P, tabO a b z.q.c) :: (D, LCg.lst ys) :: (L + 1, oT) :: ps)) (hT : oT.data = .cell none) (h1 : m (Str.ofString "replies") = some (.ref D)) (h2 : m (Str.ofString "lexer") = some (.ref z.x))
    (ha : LexAt prog w K p loose mean mg mb P z (D :: (L + 1) :: ps.map (·.1))) : LawB prog w K p loose mean mg mb g L lx P a b s .next { s with heap := h, toks := tk }
/-- objects that are no table -/
theorem no_tab {g h : Heap} {L P : Addr} {news : List (Addr × Obj)} {xs : Array Value} (N : News g L h news) (hP : (P, tabObj xs) ∈ news) {q : Addr × Obj} (hq : q ∈ news) (hne : q.2 ≠ tabObj xs) : q.1 ≠ P := fun e => hne (by
  have h1 := (N q hq).1
  rw [e, (N _ hP).1] at h1
  exact (Option.some.inj h1).symm)
theorem RepsAre.obj {ys : List Value} {ps : List (Addr × Obj)} {rs : List Rp} (h : RepsAre ys ps rs) : ∀ q ∈ ps, ∃ vs n, q.2 = W.listOf vs n := by
  induction h with
  | nil => exact fun _ h => nomatch h
  | snoc a r t1 t2 _ ih =>
    intro q hq
    rcases List.mem_cons.mp hq with rfl | hq
    · exact ⟨_, _, rfl⟩
    · exact ih q hq
theorem list_tab {vs xs : Array Value} {n : Nat} : W.listOf vs n ≠ tabObj xs := fun e => by
  have := congrArg Obj.data e
  cases this
theorem cell_tab {o : Obj} {v : Option Value} {xs : Array Value} (h : o.data = .cell v) : o ≠ tabObj xs := fun e => by
  rw [e] at h; cases h
inductive LineIs (rs : List Rp) (i : Nat) : Value → Prop
  | mk (r : Rp) (t : Tok) (h : rs[i]? = some r) : LineIs rs i (.str (lnS r) t)
theorem lines_are : ∀ (rs : List Rp) (ys : List Value), ys.length = rs.length → (∀ (i : Nat) (v : Value), ys[i]? = some v → LineIs rs i v) → StrsAre ys (rs.map lnS)
  | [], [], _, _ => .nil
  | r :: rs, y :: ys, hl, h => by
    obtain ⟨r', t, hr⟩ := h 0 y rfl
    obtain rfl : r = r' := by simpa using hr
    exact .cons _ _ (lines_are rs ys (by simpa using hl) fun i v hi => by
      obtain ⟨r', t, hr⟩ := h (i + 1) v (by simpa using hi)
      exact ⟨r', t, by simpa using hr⟩)
  | [], _ :: _, hl, _ => by simp at hl
  | _ :: _, [], hl, _ => by simp at hl
theorem LexAt.hap {prog : Program} {w : World} {K : Frag} {p : Program} {loose : List Str} {mean : ExcName → Option Value} {mg mb : Str → Option Value} {P lx : Addr} {z : Lx} {as : List Addr} {od opb oP : Obj} {l : List (Nat × Tok)} {n : Nat} {rest : List (Addr × Obj)} (h : LexAt prog w K p loose mean mg mb P z as) (e : rest.map (·.1) = as) :
    ∀ q ∈ (P, oP) :: rest, q.1 ∉ (z.own lx od opb l n).map (·.1) := by
  intro q hq
  rcases List.mem_cons.mp hq with rfl | hq
  · exact Lx.part h.hz.nd (.inr ⟨h.hS, h.hl, h.hc⟩)
  · exact (h.ap q.1 (e ▸ List.mem_map_of_mem (f := fun x : Addr × Obj => x.1) hq)).1
/-- what the numbers are apart from -/
structure NumAt (z : Lx) (R : Addr) (as : List Addr) : Prop where
  hR : @LT.lt Nat _ z.pb R
  ap : ∀ a ∈ as, a ≠ R
theorem NumAt.of {z : Lx} {R P lx : Addr} {oR od opb od' opb' oP : Obj} {l l' : List (Nat × Tok)} {n n' : Nat} {rest : List (Addr × Obj)} (nd : Ord z.S z.cl z.dy z.y z.F z.q.c z.dx z.x z.pb) (hR : @LT.lt Nat _ z.pb R)
    (h : ∀ a ∈ (R, oR) :: z.own lx od' opb' l' n', a.1 ∈ (z.own lx od opb l n).map (·.1) ∨ ∀ q ∈ (P, oP) :: rest, a.1 ≠ q.1) : NumAt z R (rest.map (·.1)) := by
  refine ⟨hR, fun a ha e => ?_⟩
  obtain ⟨q, hq, rfl⟩ := List.mem_map.mp ha
  rcases h _ (.head _) with h1 | h1
  · exact Lx.part nd (.inl hR) h1
  · exact h1 q (.tail _ hq) e.symm
/-- the numbers are told -/
inductive LawC (prog : Program) (w : World) (K : Frag) (p : Program) (loose : List Str) (mean : ExcName → Option Value) (mg mb : Str → Option Value) (g : Heap) (L lx P a b : Addr) (s : Shared) : Flow → Shared → Prop
  | mk (h : Heap) (tk : Nat) (m : Str → Option Value) (ys refs : List Value) (ps : List (Addr × Obj)) (rs : List Rp) (D R : Addr) (oT : Obj) (z : Lx) (zt : Tok) (l : List (Nat × Tok)) (n cap : Nat) (hr : RepsAre ys ps rs) (hl : rs.length ≤ 5) (ht : l.map (·.1) = restL) (hi : IntsAre refs (rs.map Rp.num)) (F : Fr g L h m)
    (N : News g L h (z.own lx (z.od w (1 + (rs.length : Nat)) zt) (W.listOf #[] 0) l n ++ (R, W.listOf refs.toArray cap) :: (P, tabO a b z.q.c) :: (D, LCg.lst ys) :: (L + 1, oT) :: ps)) (hT : oT.data = .cell (some (.ref R))) (h1 : m (Str.ofString "replies") = some (.ref D)) (h2 : m (Str.ofString "lexer") = some (.ref z.x))
    (ha : LexAt prog w K p loose mean mg mb P z (D :: (L + 1) :: ps.map (·.1))) (hb : NumAt z R (D :: (L + 1) :: ps.map (·.1))) : LawC prog w K p loose mean mg mb g L lx P a b s .next { s with heap := h, toks := tk }
theorem no_cell {g h : Heap} {L c : Addr} {o : Obj} {v : Option Value} {news : List (Addr × Obj)} (N : News g L h news) (hc : (c, o) ∈ news) (hd : o.data = .cell v) {q : Addr × Obj} (hq : q ∈ news) (hne : q.2.data ≠ .cell v) : q.1 ≠ c := fun e => hne (by
  have h1 := (N q hq).1
  rw [e, (N _ hc).1] at h1
  rw [← Option.some.inj h1]; exact hd)
/-- the cell of a name is filled -/
theorem st_told {M : Model} {A : Around} {E : Value → Shared → Prop} {s : Shared} {h₀ : Heap} {L : Addr} {m : Str → Option Value} {name : Str} {scope : Scope} {a : Addr} {cd : Value} {x : Str} {c : Addr} {o : Obj} {v₀ : Option Value} {v : Value} {own ps : List (Addr × Obj)} {x1 x2 x3 : Addr × Obj} {Q : Unit → Shared → Prop} (F : Fr h₀ L s.heap m)
    (N : News h₀ L s.heap (own ++ x1 :: x2 :: x3 :: (c, o) :: ps)) (hc : (cellsFrom (L + 1) scope.names []).lookup x = some c) (hd : o.data = .cell v₀) (h1 : ∀ p ∈ own, p.1 ≠ c) (h2 : ∀ p ∈ x1 :: x2 :: x3 :: ps, p.2.data ≠ .cell v₀)
    (h : ∀ h' o', Fr h₀ L h' m → News h₀ L h' (own ++ x1 :: x2 :: x3 :: (c, o') :: ps) → o'.data = .cell (some v) → Q () { s with heap := h' })
    (hk : scope.kind = .function) (hl : (envOfC name scope L a cd).kindOf x = some .cell) : wpAny M A (storeName (envOfC name scope L a cd) x v) Q E s := by
  have hm : (c, o) ∈ own ++ x1 :: x2 :: x3 :: (c, o) :: ps := List.mem_append_right _ (.tail _ (.tail _ (.tail _ (.head _))))
  have k : ∀ p ∈ x1 :: x2 :: x3 :: ps, p.1 ≠ c := fun p hp => no_cell N hm hd (List.mem_append_right _ (by
    rcases List.mem_cons.mp hp with rfl | hp
    · exact .head _
    rcases List.mem_cons.mp hp with rfl | hp
    · exact .tail _ (.head _)
    rcases List.mem_cons.mp hp with rfl | hp
    · exact .tail _ (.tail _ (.head _))
    · exact .tail _ (.tail _ (.tail _ (.tail _ hp))))) (h2 p hp)
  refine stCN (own := own ++ [x1, x2, x3]) (rest := ps) F (by rw [List.append_assoc]; exact N) hc hd ?_ (fun p hp => k p (.tail _ (.tail _ (.tail _ hp)))) ?_ hk hl
  · intro p hp
    rcases List.mem_append.mp hp with hp | hp
    · exact h1 p hp
    · refine k p ?_
      simp only [List.mem_cons, List.not_mem_nil, or_false] at hp ⊢
      rcases hp with h | h | h <;> simp only [h, true_or, or_true]
  · intro h' o' F' N' d'
    exact h h' o' F' (by rw [List.append_assoc] at N'; exact N') d'
theorem adr_apart {z : Lx} {lx c : Addr} {od opb : Obj} {l : List (Nat × Tok)} {n : Nat} (h : c ∉ z.adr) : ∀ p ∈ z.own lx od opb l n, p.1 ≠ c := fun _ hp e => h (e ▸ (List.mem_map_of_mem (f := fun x : Addr × Obj => x.1) hp : _ ∈ (z.own lx od opb l n).map (·.1)))
theorem no_cells {xs : Array Value} {ys refs : List Value} {ps : List (Addr × Obj)} {rs : List Rp} {R P D : Addr} {cap : Nat} {v : Option Value} (hr : RepsAre ys ps rs) : ∀ p ∈ (R, W.listOf refs.toArray cap) :: (P, tabObj xs) :: (D, LCg.lst ys) :: ps, p.2.data ≠ .cell v := by
  intro p hp
  rcases List.mem_cons.mp hp with rfl | hp
  · exact fun e => by cases e
  rcases List.mem_cons.mp hp with rfl | hp
  · exact fun e => by cases e
  rcases List.mem_cons.mp hp with rfl | hp
  · exact fun e => by cases e
  obtain ⟨vs, n, e⟩ := hr.obj p hp
  rw [e]
  exact fun e => by cases e
inductive NumIsR (rs : List Rp) (i : Nat) : Value → Prop
  | mk (r : Rp) (t : Tok) (h : rs[i]? = some r) : NumIsR rs i (.int r.num t)
theorem nums_are : ∀ (rs : List Rp) (ys : List Value), ys.length = rs.length → (∀ (i : Nat) (v : Value), ys[i]? = some v → NumIsR rs i v) → IntsAre ys (rs.map Rp.num)
  | [], [], _, _ => .nil
  | r :: rs, y :: ys, hl, h => by
    obtain ⟨r', t, hr⟩ := h 0 y rfl
    obtain rfl : r = r' := by simpa using hr
    exact .cons _ _ (nums_are rs ys (by simpa using hl) fun i v hi => by
      obtain ⟨r', t, hr⟩ := h (i + 1) v (by simpa using hi)
      exact ⟨r', t, by simpa using hr⟩)
  | [], _ :: _, hl, _ => by simp at hl
  | _ :: _, [], hl, _ => by simp at hl
theorem figI_snoc (ns : List Int) (r k : Nat) {j : Int} (h : ns[k]? = some j) : figI (ns.take (k + 1)) r = if 2 ^ r ≤ j then figI (ns.take k) r ++ [(j.fdiv (2 ^ r)).fmod 2] else figI (ns.take k) r := by
  unfold figI
  rw [List.take_add_one, h]
  by_cases h0 : 2 ^ r ≤ j <;> simp [h0]
theorem fig_on {ns : List Int} {r k : Nat} {j : Int} (h : ns[k]? = some j) (h0 : 2 ^ ((r : Nat) : Int).toNat ≤ j) {ys : List Value} (hi : IntsAre ys (figI (ns.take k) r)) (t : Tok) : IntsAre (ys ++ [.int ((j.fdiv (2 ^ ((r : Nat) : Int).toNat)).fmod 2) t]) (figI (ns.take (k + 1)) r) := by
  rw [Int.toNat_natCast] at h0 ⊢
  rw [figI_snoc ns r k h, if_pos h0]
  exact ints_snoc hi _ t
theorem fig_off {ns : List Int} {r k : Nat} {j : Int} (h : ns[k]? = some j) (h0 : ¬ 2 ^ ((r : Nat) : Int).toNat ≤ j) {ys : List Value} (hi : IntsAre ys (figI (ns.take k) r)) : IntsAre ys (figI (ns.take (k + 1)) r) := by
  rw [Int.toNat_natCast] at h0
  rw [figI_snoc ns r k h, if_neg h0]
  exact hi
/-- the figures that are counted -/
inductive FigJ (ns : List Int) (base : List (Addr × Obj)) : List Value → List (Addr × Obj) → Prop
  | mk (ys : List Value) (ps : List (Addr × Obj)) (h : PySem.W.DatAll ps ys (((List.range ys.length).map (figI ns)).map datI)) (hap : ∀ q ∈ ps, ∀ b ∈ base, b.1 ≠ q.1) : FigJ ns base ys (ps ++ base)
theorem fig_turn {ns : List Int} {base ps : List (Addr × Obj)} {ys ys4 : List Value} {D2 : Addr} {i k : Nat} (hd : PySem.W.DatAll ps ys (((List.range ys.length).map (figI ns)).map datI)) (hap : ∀ q ∈ ps, ∀ b ∈ base, b.1 ≠ q.1) (hl : ys.length = i) (hk : ns.length ≤ k) (h4 : IntsAre ys4 (figI (ns.take k) i)) (hD : ∀ b ∈ base, b.1 ≠ D2) :
    FigJ ns base (ys ++ [.ref D2]) ((D2, LCg.lst ys4) :: (ps ++ base)) := by
  subst hl
  rw [List.take_of_length_le hk] at h4
  refine .mk _ ((D2, LCg.lst ys4) :: ps) ?_ ?_
  · rw [List.length_append, List.length_singleton, List.range_succ, List.map_append, List.map_append]
    exact (PySem.W.DatAll.mono (fun q hq => List.mem_cons_of_mem _ hq) hd).append (.cons (.list (n := ys4.length) (List.mem_cons_self ..) (dat_ints h4)) .nil)
  · intro q hq
    rcases List.mem_cons.mp hq with rfl | hq
    · exact hD
    · exact hap q hq
theorem off1_mem {D : Addr} {l : List (Addr × Obj)} (x : LCg.Off1 D l) : ∀ p ∈ l, p.1 ≠ D := by
  induction l with
  | nil => exact fun _ h => nomatch h
  | cons q l ih =>
    intro p h
    rcases List.mem_cons.mp h with rfl | h
    · exact x.1
    · exact ih x.2 p h
theorem led_in {h₀ h : Heap} {L I C K D : Addr} {oI oK : Obj} {ys : List Value} {nw : List (Addr × Obj)} {x : Addr × Obj} (N : News h₀ L h (x :: led4 I C K D oI oK ys nw)) : News h₀ L h (led4 I C K D oI oK ys (x :: nw)) := fun q hq => N q (by
  unfold led4 at hq ⊢
  simp only [List.mem_cons] at hq ⊢
  rcases hq with h | h | h | h | h | h <;> simp only [h, true_or, or_true])
theorem led_off {I C K D D2 : Addr} {o : Obj} {oI oK : Obj} {ys : List Value} {nw : List (Addr × Obj)} (h : Off4 I C K D nw) (o3 : LCg.Off1 D2 (led4 I C K D oI oK ys nw)) : Off4 I C K D ((D2, o) :: nw) := fun q hq => by
  rcases List.mem_cons.mp hq with rfl | hq
  · exact ⟨Ne.symm o3.1, Ne.symm o3.2.1, Ne.symm o3.2.2.1, Ne.symm o3.2.2.2.1⟩
  · exact h q hq
theorem ap_base {z : Lx} {lx P R x : Addr} {od opb oR oP : Obj} {l : List (Nat × Tok)} {n : Nat} {rest : List (Addr × Obj)} (h : ∀ b ∈ z.own lx od opb l n ++ (R, oR) :: (P, oP) :: rest, b.1 ≠ x) : (x ∉ z.adr ∧ x ≠ P) ∧ x ≠ R := by
  refine ⟨⟨fun hm => ?_, Ne.symm (h _ (List.mem_append_right _ (.tail _ (.head _))))⟩, Ne.symm (h _ (List.mem_append_right _ (.head _)))⟩
  obtain ⟨o, ho, e⟩ := List.mem_map.mp (show x ∈ (z.own lx od opb l n).map (·.1) from hm)
  exact h o (List.mem_append_left _ ho) e
/-- the addresses are apart from the lexer, the table and the numbers -/
structure Aps (z : Lx) (P R : Addr) (as : List Addr) : Prop where
  ap : ∀ a ∈ as, (a ∉ z.adr ∧ a ≠ P) ∧ a ≠ R
theorem Aps.cons {z : Lx} {P R a : Addr} {as : List Addr} (h : Aps z P R as) (h1 : (a ∉ z.adr ∧ a ≠ P) ∧ a ≠ R) : Aps z P R (a :: as) := ⟨fun b hb => by
  rcases List.mem_cons.mp hb with rfl | hb
  · exact h1
  · exact h.ap b hb⟩
/-- where the lexer, the table and the numbers lie -/
structure LawAt (prog : Program) (w : World) (K : Frag) (p : Program) (loose : List Str) (mean : ExcName → Option Value) (mg mb : Str → Option Value) (P R : Addr) (z : Lx) : Prop where
  hz : z.Ok prog w K p loose mean mg mb
  hS : @LT.lt Nat _ P z.S
  hl : @LT.lt Nat _ P z.cl
  hc : @LT.lt Nat _ P z.q.c
  hR : @LT.lt Nat _ z.pb R
theorem law_D {prog : Program} {w : World} {K : Frag} {p : Program} {loose : List Str} {mean : ExcName → Option Value} {mg mb : Str → Option Value} {z : Lx} {lx P R D c Dg : Addr} {as : List Addr} {ps base rest : List (Addr × Obj)} {od opb oR oP : Obj} {l : List (Nat × Tok)} {n : Nat} (ha : LexAt prog w K p loose mean mg mb P z (D :: c :: as)) (hb : NumAt z R (D :: c :: as))
    (hbase : z.own lx od opb l n ++ (R, oR) :: (P, oP) :: rest = base) (hap : ∀ q ∈ ps, ∀ b ∈ base, b.1 ≠ q.1) (h6 : ∀ p ∈ ps ++ base, p.1 ≠ Dg) : LawAt prog w K p loose mean mg mb P R z ∧ Aps z P R (D :: c :: Dg :: ps.map (·.1)) := by
  subst hbase
  refine ⟨⟨ha.hz, ha.hS, ha.hl, ha.hc, hb.hR⟩, .cons (.cons (.cons ⟨fun a hm => ?_⟩ (ap_base fun b hb => h6 b (List.mem_append_right _ hb))) ⟨ha.ap _ (.tail _ (.head _)), hb.ap _ (.tail _ (.head _))⟩) ⟨ha.ap _ (.head _), hb.ap _ (.head _)⟩⟩
  obtain ⟨q, hq, rfl⟩ := List.mem_map.mp hm
  exact ap_base (hap q hq)
/-- the figures are counted -/
inductive LawD (prog : Program) (w : World) (K : Frag) (p : Program) (loose : List Str) (mean : ExcName → Option Value) (mg mb : Str → Option Value) (g : Heap) (L lx P a b : Addr) (s : Shared) : Flow → Shared → Prop
  | mk (h : Heap) (tk : Nat) (m : Str → Option Value) (ys refs fs : List Value) (ps : List (Addr × Obj)) (rs : List Rp) (D R Dg : Addr) (oT : Obj) (z : Lx) (zt : Tok) (l : List (Nat × Tok)) (n cap : Nat) (hr : rs.length = ys.length) (hl : rs.length ≤ 5) (ht : l.map (·.1) = restL) (hi : IntsAre refs (rs.map Rp.num)) (F : Fr g L h m)
    (N : News g L h (z.own lx (z.od w (1 + (rs.length : Nat)) zt) (W.listOf #[] 0) l n ++ (R, W.listOf refs.toArray cap) :: (P, tabO a b z.q.c) :: (D, LCg.lst ys) :: (L + 1, oT) :: (Dg, LCg.lst fs) :: ps)) (hT : oT.data = .cell (some (.ref R))) (h1 : m (Str.ofString "replies") = some (.ref D)) (h2 : m (Str.ofString "lexer") = some (.ref z.x))
    (h3 : m (Str.ofString "figures") = some (.ref Dg)) (hf : PySem.W.DatAll ps fs (((List.range 4).map (figI (rs.map Rp.num))).map datI)) (ha : LawAt prog w K p loose mean mg mb P R z) (hb : Aps z P R (D :: (L + 1) :: Dg :: ps.map (·.1))) : LawD prog w K p loose mean mg mb g L lx P a b s .next { s with heap := h, toks := tk }
theorem news_D {g h : Heap} {L Dg : Addr} {o : Obj} {ps own base ps0 : List (Addr × Obj)} {x1 x2 x3 x4 : Addr × Obj} (N : News g L h ((Dg, o) :: (ps ++ base))) (e : own ++ x1 :: x2 :: x3 :: x4 :: ps0 = base) : News g L h (own ++ x1 :: x2 :: x3 :: x4 :: (Dg, o) :: ps) := fun q hq => N q (by
  rw [← e]
  simp only [List.mem_append, List.mem_cons] at hq ⊢
  rcases hq with h | h | h | h | h | h | h <;> simp only [h, true_or, or_true])
theorem pow_facts {i : Nat} (h : i < 4) : 0 < (2 : Int) ^ i ∧ (2 : Int) ^ i ≤ 8 := by
  have : ∀ i < 4, 0 < (2 : Int) ^ i ∧ (2 : Int) ^ i ≤ 8 := by decide
  exact this i h
section
open PySem.W
theorem ints_of_dat {news : List (Addr × Obj)} : ∀ {ns : List Int} {vs : List Value}, DatAll news vs (ns.map .int) → IntsAre vs ns
  | [], _, h => by cases h; exact .nil
  | n :: ns, _, h => by
    cases h with | cons h1 h2 => cases h1; exact .cons _ _ (ints_of_dat h2)
/-- a line of figures -/
inductive LineAt (ps : List (Addr × Obj)) (c : List Int) : Value → Prop
  | mk (a : Addr) (vs : List Value) (n : Nat) (hm : (a, W.listOf vs.toArray n) ∈ ps) (hi : IntsAre vs c) : LineAt ps c (.ref a)
theorem dat_lines {ps : List (Addr × Obj)} : ∀ {cs : List (List Int)} {fs : List Value}, DatAll ps fs (cs.map datI) → ∀ {k : Nat} {v : Value}, fs[k]? = some v → ∃ c, cs[k]? = some c ∧ LineAt ps c v ∧ DatIn ps v (datI c)
  | [], _, h, k, v, e => by cases h; cases e
  | c :: cs, _, h, k, v, e => by
    cases h with
    | cons h1 h2 =>
      cases k with
      | succ k => exact dat_lines h2 e
      | zero =>
        cases e
        refine ⟨c, rfl, ?_, h1⟩
        cases h1 with | list hm hd => exact .mk _ _ _ hm (ints_of_dat hd)
/-- the lines that are due, so far -/
structure DueJ (ps : List (Addr × Obj)) (cs : List (List Int)) (k : Nat) (ys : List Value) : Prop where
  h : DatAll ps ys (((cs.take k).filter fun c => !c.isEmpty).map datI)
theorem due_on {ps : List (Addr × Obj)} {cs : List (List Int)} {k : Nat} {ys : List Value} {c : List Int} {v : Value} (hc : cs[k]? = some c) (hn : ¬ c = []) (hv : DatIn ps v (datI c)) (h : DueJ ps cs k ys) : DueJ ps cs (k + 1) (ys ++ [v]) := by
  refine ⟨?_⟩
  have e : (!c.isEmpty) = true := by cases c with | nil => exact absurd rfl hn | cons _ _ => rfl
  rw [List.take_add_one, hc, Option.toList_some, List.filter_append, List.map_append]
  simp only [List.filter_cons, e, if_true, List.filter_nil, List.map_cons, List.map_nil]
  exact h.h.append (.cons hv .nil)
theorem due_off {ps : List (Addr × Obj)} {cs : List (List Int)} {k : Nat} {ys : List Value} {c : List Int} (hc : cs[k]? = some c) (hn : c = []) (h : DueJ ps cs k ys) : DueJ ps cs (k + 1) ys := by
  refine ⟨?_⟩
  subst hn
  rw [List.take_add_one, hc, Option.toList_some, List.filter_append]
  simp only [List.filter_cons, List.isEmpty_nil, Bool.not_true, Bool.false_eq_true, if_false, List.filter_nil, List.append_nil]
  exact h.h
/-- the lines that are due, with the empty one behind them -/
theorem due_all {ps : List (Addr × Obj)} {ns : List Int} {fs ys : List Value} {e : Addr} (hf : fs.length = 4) (h : DueJ ps ((List.range 4).map (figI ns)) fs.toArray.size ys) : DatAll ((e, W.listOf #[] 0) :: ps) (ys ++ [.ref e]) ((dueQ (posQ ns)).map datI) := by
  have h1 := h.h
  rw [List.size_toArray, hf, List.take_of_length_le (by simp), show figI ns = figQ (posQ ns) from funext (figI_eq ns)] at h1
  unfold dueQ
  rw [List.map_append]
  exact (DatAll.mono (fun _ hq => .tail _ hq) h1).append (.cons (.list (vs := []) (n := 0) (.head _) .nil) .nil)
theorem due_fit {ps : List (Addr × Obj)} {ns : List Int} {ys : List Value} {e : Value} (h : DatAll ps (ys ++ [e]) ((dueQ (posQ ns)).map datI)) : ys.length + 1 ≤ sizeLine := by
  have h1 := dat_len h
  have h2 : (((List.range 4).map (figQ (posQ ns))).filter fun c => !c.isEmpty).length ≤ 4 := Nat.le_trans (List.length_filter_le ..) (by simp)
  rw [List.length_append, List.length_singleton, List.length_map, dueQ, List.length_append, List.length_singleton] at h1
  rw [PySem.sizeLine_eq]
  omega
end
/-- the lines are due -/
inductive LawE (prog : Program) (w : World) (K : Frag) (p : Program) (loose : List Str) (mean : ExcName → Option Value) (mg mb : Str → Option Value) (g : Heap) (L lx P a b D : Addr) (s : Shared) : Flow → Shared → Prop
  | mk (h : Heap) (tk : Nat) (m : Str → Option Value) (ys refs us : List Value) (ps : List (Addr × Obj)) (rs : List Rp) (R Du : Addr) (oT : Obj) (z : Lx) (zt : Tok) (l : List (Nat × Tok)) (n cap : Nat) (hr : rs.length = ys.length) (hl : rs.length ≤ 5) (ht : l.map (·.1) = restL) (hi : IntsAre refs (rs.map Rp.num)) (F : Fr g L h m)
    (N : News g L h (z.own lx (z.od w (1 + (rs.length : Nat)) zt) (W.listOf #[] 0) l n ++ (R, W.listOf refs.toArray cap) :: (P, tabO a b z.q.c) :: (D, LCg.lst ys) :: (L + 1, oT) :: (Du, W.listOf us.toArray 0) :: ps)) (hT : oT.data = .cell (some (.ref R))) (h1 : m (Str.ofString "replies") = some (.ref D)) (h2 : m (Str.ofString "lexer") = some (.ref z.x))
    (h3 : m (Str.ofString "due") = some (.ref Du)) (hf : PySem.W.DatAll ps us ((dueQ (posQ (rs.map Rp.num))).map datI)) (ha : LawAt prog w K p loose mean mg mb P R z) (hb : Aps z P R (D :: (L + 1) :: Du :: ps.map (·.1))) : LawE prog w K p loose mean mg mb g L lx P a b D s .next { s with heap := h, toks := tk }
theorem news_E {g h : Heap} {L : Addr} {own ps : List (Addr × Obj)} {x x1 x2 x3 a1 a2 a3 a4 a5 : Addr × Obj} (N : News g L h (x :: x1 :: x2 :: x3 :: (own ++ a1 :: a2 :: a3 :: a4 :: a5 :: ps))) : News g L h (own ++ a1 :: a2 :: a3 :: a4 :: x :: x2 :: ps) := fun q hq => N q (by
  simp only [List.mem_append, List.mem_cons] at hq ⊢
  rcases hq with h | h | h | h | h | h | h | h <;> simp only [h, true_or, or_true])
theorem law_E {z : Lx} {lx P R D c Dg Du e : Addr} {oR oP : Obj} {ps own rest : List (Addr × Obj)} {od opb : Obj} {l : List (Nat × Tok)} {n : Nat} {x1 x2 x3 : Addr × Obj} (hb : Aps z P R (D :: c :: Dg :: ps.map (·.1))) (ho : z.own lx od opb l n = own) (he : PySem.W.AllLt e (own ++ (R, oR) :: (P, oP) :: rest))
    (hu : ∀ q ∈ x1 :: x2 :: x3 :: (own ++ (R, oR) :: (P, oP) :: rest), @LT.lt Nat _ q.1 Du) : Aps z P R (D :: c :: Du :: e :: ps.map (·.1)) := by
  subst ho
  have k := hb.ap
  exact .cons (.cons (.cons (.cons ⟨fun a hm => k a (.tail _ (.tail _ (.tail _ hm)))⟩ (ap_base (PySem.W.tbn_neAll he))) (ap_base fun b hb => Nat.ne_of_lt (hu b (.tail _ (.tail _ (.tail _ hb)))))) (k _ (.tail _ (.head _)))) (k _ (.head _))
theorem Aps.hap {z : Lx} {P R lx : Addr} {as : List Addr} {od opb oR oP : Obj} {l : List (Nat × Tok)} {n : Nat} {rest : List (Addr × Obj)} (h : Aps z P R as) (e : rest.map (·.1) = as) : ∀ q ∈ rest, q.1 ∉ (z.own lx od opb l n ++ [(R, oR), (P, oP)]).map (·.1) := by
  subst e
  intro q hq hm
  obtain ⟨⟨h1, h2⟩, h3⟩ := h.ap q.1 (List.mem_map_of_mem (f := fun x : Addr × Obj => x.1) hq)
  rw [List.map_append] at hm
  rcases List.mem_append.mp hm with hm | hm
  · exact h1 hm
  rcases List.mem_cons.mp hm with e | hm
  · exact h3 e
  · exact h2 (List.mem_singleton.mp hm)
theorem Aps.more {prog : Program} {w : World} {K : Frag} {p : Program} {loose : List Str} {mean : ExcName → Option Value} {mg mb : Str → Option Value} {z : Lx} {P R : Addr} {as : List Addr} {ps : List (Addr × Obj)} (ha : LawAt prog w K p loose mean mg mb P R z) (h : Aps z P R as) (hp : ∀ q ∈ ps, @LT.lt Nat _ R q.1) : Aps z P R (ps.map (·.1) ++ as) := by
  refine ⟨fun a hm => ?_⟩
  rcases List.mem_append.mp hm with hm | hm
  · obtain ⟨q, hq, rfl⟩ := List.mem_map.mp hm
    have k1 := hp q hq
    have k2 := ha.hR
    have k3 := ha.hS
    have k4 := ha.hz.nd
    have kz : @LT.lt Nat _ z.S z.pb := by
      unfold Ord at k4
      obtain ⟨-, b1, -, b3, b4, b5, b6, b7, -⟩ := k4
      exact Nat.lt_trans b1 (Nat.lt_trans b3 (Nat.lt_trans b4 (Nat.lt_trans b5 (Nat.lt_trans b6 b7))))
    exact ⟨⟨Lx.part (lx := P) (od := instObj P P) (opb := instObj P P) (l := []) (n := 0) k4 (.inl (Nat.lt_trans k2 k1)), Ne.symm (Nat.ne_of_lt (Nat.lt_trans k3 (Nat.lt_trans kz (Nat.lt_trans k2 k1))))⟩, Ne.symm (Nat.ne_of_lt k1)⟩
  · exact h.ap a hm
theorem rest_len {l : List (Nat × Tok)} (h : l.map (·.1) = restL ∨ l.map (·.1) = restL2) : l.length ≤ 5000 ∧ (token (l.map (·.1))).1 = [101, 110, 100] := by
  rcases h with h | h
  · refine ⟨?_, by rw [h, token_rest]⟩
    rw [← List.length_map (f := fun x : Nat × Tok => x.1), h]; decide
  · refine ⟨?_, by rw [h, token_rest2]⟩
    rw [← List.length_map (f := fun x : Nat × Tok => x.1), h]; decide
theorem nums_at (rs : List Rp) (h : rs.length ≤ 5) : (rs.map Rp.num).length ≤ 5 ∧ ∀ i ∈ rs.map Rp.num, i < 16 := by
  refine ⟨by rw [List.length_map]; exact h, fun i hi => ?_⟩
  obtain ⟨r, _, rfl⟩ := List.mem_map.mp hi
  exact (num_range r).2
theorem news_two {g h : Heap} {L : Addr} {own rest : List (Addr × Obj)} {x y : Addr × Obj} (N : News g L h (own ++ x :: y :: rest)) : News g L h ((own ++ [x, y]) ++ rest) := by
  rw [List.append_assoc]; exact N
theorem news_two2 {g h : Heap} {L : Addr} {own ps rest : List (Addr × Obj)} {x y : Addr × Obj} (N : News g L h ((own ++ x :: y :: ps) ++ rest)) : News g L h ((own ++ [x, y]) ++ (ps ++ rest)) := by
  rw [List.append_assoc] at N ⊢; exact N
section
open PySem.W
theorem line_ok (c : List Int) : kqdOk 6 (datI c) = true := by
  simp only [datI, kqdOk, List.all_map, List.all_eq_true, Function.comp_apply]
  exact fun _ _ => trivial
theorem told_ok (cs : List (List Int)) (i : Int) : kqdOk 8 (.list [.list (cs.map datI), .int i]) = true := by
  simp only [kqdOk, List.all_cons, List.all_nil, List.all_map, Bool.and_true, List.all_eq_true, Function.comp_apply]
  exact fun c _ => line_ok c
/-- what is told by both is what is due -/
theorem told_eq {prog : Program} {w : World} {A₀ : Around} {E : Value → Shared → Prop} {s : Shared} {g : Heap} {L A i1 i2 B R1 R2 Du : Addr} {own ps1 ps2 ps : List (Addr × Obj)} {x1 x2 y1 y2 : Addr × Obj} {us : List Value} {k : Int} {u1 u2 : Tok} {c c' : List (List Int)} {Q : Value → Shared → Prop}
    (N : News g L s.heap ((B, W.listOf #[.ref i1, .ref i2] 0) :: (i2, W.listOf #[.ref Du, .int (k + 3 + 1) u2] 0) :: (i1, W.listOf #[.ref Du, .int (k + 3) u1] 0) :: (A, W.listOf #[.ref R1, .ref R2] 0) :: (((own ++ x1 :: x2 :: ps2) ++ (ps1 ++ y1 :: y2 :: (Du, W.listOf us.toArray 0) :: ps)))))
    (h1 : DatIn ps1 (.ref R1) (.list [.list (c.map datI), .int (1 + k + 2)])) (h2 : DatIn ps2 (.ref R2) (.list [.list (c.map datI), .int (1 + k + 2 + 1)])) (hd : DatAll ps us (c'.map datI)) (e : c = c') (hu : A₀.units + 64 < cLine)
    (h : Q (.bool true) s) : wpAny (model prog w) A₀ (compareOp .Eq (.ref A) (.ref B)) Q E s := by
  subst e
  rw [show 1 + k + 2 = k + 3 by omega] at h1 h2
  have s1 : ∀ q ∈ ps1, q ∈ (B, W.listOf #[.ref i1, .ref i2] 0) :: (i2, W.listOf #[.ref Du, .int (k + 3 + 1) u2] 0) :: (i1, W.listOf #[.ref Du, .int (k + 3) u1] 0) :: (A, W.listOf #[.ref R1, .ref R2] 0) :: (((own ++ x1 :: x2 :: ps2) ++ (ps1 ++ y1 :: y2 :: (Du, W.listOf us.toArray 0) :: ps))) :=
    fun q hq => .tail _ (.tail _ (.tail _ (.tail _ (List.mem_append_right _ (List.mem_append_left _ hq)))))
  generalize hn : ((B, W.listOf #[.ref i1, .ref i2] 0) :: (i2, W.listOf #[.ref Du, .int (k + 3 + 1) u2] 0) :: (i1, W.listOf #[.ref Du, .int (k + 3) u1] 0) :: (A, W.listOf #[.ref R1, .ref R2] 0) :: (((own ++ x1 :: x2 :: ps2) ++ (ps1 ++ y1 :: y2 :: (Du, W.listOf us.toArray 0) :: ps)))) = news at N s1
  have s2 : ∀ q ∈ ps2, q ∈ news := hn ▸ fun q hq => .tail _ (.tail _ (.tail _ (.tail _ (List.mem_append_left _ (List.mem_append_right _ (.tail _ (.tail _ hq)))))))
  have s3 : ∀ q ∈ (Du, W.listOf us.toArray 0) :: ps, q ∈ news := hn ▸ fun q hq => .tail _ (.tail _ (.tail _ (.tail _ (List.mem_append_right _ (List.mem_append_right _ (.tail _ (.tail _ hq)))))))
  have m1 : (B, W.listOf #[.ref i1, .ref i2] 0) ∈ news := hn ▸ .head _
  have m2 : (i2, W.listOf #[.ref Du, .int (k + 3 + 1) u2] 0) ∈ news := hn ▸ .tail _ (.head _)
  have m3 : (i1, W.listOf #[.ref Du, .int (k + 3) u1] 0) ∈ news := hn ▸ .tail _ (.tail _ (.head _))
  have m4 : (A, W.listOf #[.ref R1, .ref R2] 0) ∈ news := hn ▸ .tail _ (.tail _ (.tail _ (.head _)))
  clear hn
  have hD : DatIn news (.ref Du) (.list (c.map datI)) := .list (s3 _ (.head _)) (DatAll.mono (fun q hq => s3 q (.tail _ hq)) hd)
  have hok : ∀ d ∈ [Dat.list [.list (c.map datI), .int (k + 3)], Dat.list [.list (c.map datI), .int (k + 3 + 1)]], kqdOk 8 d = true := by
    intro d hd
    rcases List.mem_cons.mp hd with rfl | hd
    · exact told_ok _ _
    rw [List.mem_singleton.mp hd]
    exact told_ok _ _
  refine kqd_eq (n₁ := news) (n₂ := news) (xs := [.ref R1, .ref R2]) (ys := [.ref i1, .ref i2]) N m4 rfl rfl (.cons (DatIn.mono s1 h1) (.cons (DatIn.mono s2 h2) .nil)) (fun _ h => h) m1 rfl rfl
    (.cons (.list (vs := [.ref Du, .int (k + 3) u1]) (n := 0) m3 (.cons hD (.cons (.int _ _) .nil))) (.cons (.list (vs := [.ref Du, .int (k + 3 + 1) u2]) (n := 0) m2 (.cons hD (.cons (.int _ _) .nil))) .nil)) (fun _ h => h) hok hok hu ?_
  rw [show ∀ (x : Prop) (i : Decidable x), x → @decide x i = true from fun x i hx => @decide_eq_true x i hx]
  · exact h
  · rfl
end
theorem news_fin {g h : Heap} {L lx : Addr} {z : Lx} {od opb : Obj} {l : List (Nat × Tok)} {n : Nat} {x1 x2 x3 x4 x y : Addr × Obj} {ps rest : List (Addr × Obj)} (N : News g L h (x1 :: x2 :: x3 :: x4 :: ((z.own lx od opb l n ++ x :: y :: ps) ++ rest))) : News g L h [y, (z.q.c, z.oc)] := fun q hq => N q (by
  refine .tail _ (.tail _ (.tail _ (.tail _ (List.mem_append_left _ ?_))))
  rcases List.mem_cons.mp hq with rfl | hq
  · exact List.mem_append_right _ (.tail _ (.head _))
  · rw [List.mem_singleton.mp hq]
    exact List.mem_append_left _ (.tail _ (.tail _ (.tail _ (.tail _ (.tail _ (.head _)))))))
set_option maxRecDepth 100000 in
set_option maxHeartbeats 8000000 in
theorem law2 : PySem.Challenge.rw_pm0015_02.Holds := Mine.hd (by
  k_fill
  intro w s₀ s₁ mg mb G Y fa o pm cd doc dV kV ho hd hcd hD hmg hg args vals as hpre hlay hrd hwl hlo
  obtain rfl : kV = .none := hD.noKw
  obtain rfl : dV = .none := hD.pos.elim (·.2) fun y => absurd rfl y.1
  have KX := km_in_of Y
  have KT := km_tabs_of Y
  have X := (Ground.X G).1
  have V := (Ground.X G).2
  refine Ground.open G ?_
  intro T B D TE TW
  try (refine guard_noD D (by decide +kernel) ?_; clear D)
  wrow_args hpre hlay hrd hwl hlo
  have hT9 : TabsAt [((120 : Addr), (116 : Addr))] s₁.heap := fun q hq => by
    rw [List.mem_singleton.mp hq]
    exact ⟨codeHd_of_K KX (by kernel_rfl), KT _ (List.mem_cons_self ..)⟩
  (with_reducible rename List Value => vs)
  (with_reducible rename List Int => ns)
  (with_reducible rename IntsAre _ _ => hI)
  (with_reducible rename s₁.heap.IsList _ _ => hL)
  (with_reducible rename ¬ ((63 : Nat) : Int) < _ => hns)
  have hsl := ghost_list hT9 hL
  refine wpP_call ?_
  refine' lawT_at (K := Mine.hd.heap_39 w.params) (post := LawPost 116 102 18) (own := [((116 : Addr), tabObj #[])]) (base := hid s₁.heap [((116 : Addr), tabObj #[])]) (dp := 301) (un := 4) (gd := some []) (fr := []) (below_caller _) (ghost_K hT9 KX (by kernel_rfl)) (ghost_top hT9 T) (fun _ h => nomatch h) (by decide) ?hown ?hret ho hd hcd (fun _ => BindsTo.of_eq rfl) rfl ?hnd rfl rfl rfl ?_
  (case hnd => dsimp only [docDef]; decide +kernel)
  (case hown =>
    intro q hq
    rw [List.mem_singleton.mp hq]; exact KT _ (List.mem_cons_self ..))
  (case hret =>
    rintro v s' own' r ⟨rfl, ht⟩
    obtain ⟨ps, hps⟩ := ht.grown
    dsimp only
    refine good_law (d := ofPy (.bool true)) (as := []) hT9 (fun _ => rfl) ?_ ?_ (fun _ => ⟨List.nodup_nil, fun _ h => nomatch h⟩) ?_ ⟨⟨ps, r.at_ _ hps⟩, trivial⟩ ?_ ?_
    · exact .bool true
    · first | rfl | kernel_rfl
    · intro b o hb e
      obtain ⟨g', T', k'⟩ := r.turn
      exact k' _ _ (T'.other b o (hideAll_get _ e hb) (fun h => nomatch h))
    · rw [r.same]
    · rw [r.same]; exact .of_eq hg)
  clear ho hd hcd hD hmg hg KX KT X V T B TE TW hT9 hL G Y
  (try (with_reducible rename ReadsAllW _ _ _ _ _ _ => z1; clear z1))
  (try (with_reducible rename ReadsAll _ _ _ _ => z1; clear z1))
  (try (with_reducible rename Reads _ _ _ _ => z1; clear z1))
  (try (with_reducible rename Well _ _ _ _ => z1; clear z1))
  (try clear GL)
  dsimp only [docDef]
  intro g L h₁ tk cells hgg B F N Y XB TB X T hlt D
  k_cells Y
  rw [show ghostOf s₁.heap [((120 : Addr), (116 : Addr))] = g from hgg.symm] at hsl
  (try dsimp only)
  (try simp only [List.cons_append, List.nil_append] at N)
  refine (?gen : ∀ (p : Program) (loose : List Str) (mean : ExcName → Option Value), Top p loose mean mg mb (hid s₁.heap [((116 : Addr), tabObj #[])]) → Top p loose mean mg mb g → _) _ _ _ TB T
  clear TB T
  intro p loose mean TB T
  refine wpP_split 1 ?_
  dsimp only [List.take, List.drop]
  refine wpAny_mono (Q := LawA g L 116 s₁) ?fA ?rA (fun _ _ e => e)
  (case rA =>
    clear F N hI hns hsl
    rintro fl s' ⟨h2, tk2, m2, ys, ps, rs, DR, oT, hra, hrl, F1, N1, hT, hmr⟩
    dsimp only
    refine wpP_split 1 ?_
    dsimp only [List.take, List.drop]
    refine wpAny_mono (Q := LawB PySem.Challenge.rw_pm0015_02.row.prog w (Mine.hd.heap_39 w.params) p loose mean mg mb g L 52 116 102 18 s₁) ?fB ?rB (fun _ _ e => e)
    (case rB =>
      clear F1 N1 hra hrl hT hmr
      rintro fl s' ⟨h2, tk2, m2, ys, ps, rs, DR, oT, z, zt, l, n, hra, hrl, htx, F1, N1, hT, hmr, hml, ha⟩
      dsimp only
      have htl := text_len rs
      have hll : l.length ≤ 600 := by rw [← List.length_map (f := fun x : Nat × Tok => x.1), htx]; omega
      refine wpP_execs_cons (wpP_Assign (wpP_Call ?_))
      k_fold
      k_steps
      (try any_goals (first | exact Str.empty | exact Value.none | exact (0 : Nat)))
      unfold Hold
      refine wpP_callWith_fn1 ?_
      k_fold
      k_steps
      (try any_goals (first | exact Str.empty | exact Value.none | exact (0 : Nat)))
      unfold Hold
      (with_reducible rename Fr _ _ _ _ => F2)
      (with_reducible rename News _ _ _ _ => N2)
      refine' ⟨fn_at (f := 142) X F2 ?k6, ?_⟩
      (case k6 => k_is)
      refine ctrT_use (numbers_k w z ha.hz 1 zt 0 l n hll (by rw [htx]; exact fun c hc => Nat.lt_trans (htl.2.2 c hc) (by decide))) B F2 XB TB D N2 rfl rfl (by decide) (by decide) (ha.hap rfl) ?_
      rintro v own' h3 tk3 g3 ⟨R, refs, cap, l', pre, n', t', hrf, hpre, hl', hR⟩ T3 F3 N3 hap
      obtain ⟨F4, N4⟩ := turn_nil T3 F3 N3
      have hb := NumAt.of ha.hz.nd hR hap
      rw [htx, nums_all] at hl' hrf
      rw [nls_pre htx hpre hl'] at N4
      clear F2 N2 F3 N3 T3 hap hpre htl hll
      refine st_told F4 (news_mv N4) rfl hT (adr_apart (ha.ap _ (.tail _ (.head _))).1) (no_cells hra) ?_ rfl rfl
      intro h5 oT' F5 N5 hT'
      clear F4 N4
      refine (?rC : ∀ s', LawC PySem.Challenge.rw_pm0015_02.row.prog w (Mine.hd.heap_39 w.params) p loose mean mg mb g L 52 116 102 18 s₁ .next s' → wpP _ _ _ _ _ s') _ (.mk _ _ _ ys refs ps rs DR R oT' z t' l' n' cap hra hrl hl' hrf F5 N5 hT' hmr hml ha hb)
      clear F5 N5 hra hrl hl' hrf hT hT' hmr hml ha hb hR htx
      rintro s' ⟨h2, tk2, m2, ys, refs, ps, rs, D, R, oT, z, zt, l, n, cap, hra, hrl, htx, hrf, F1, N1, hT, hmr, hml, ha, hb⟩
      refine wpP_any ?_
      k_fold
      k_steps
      unfold Hold
      refine LCg.ListComp_U (F₀ := F1) (by with_unfolding_all rfl) (by decide) (by rfl) (by decide) (by rfl) ?_
      (((try dsimp only); (with_reducible show wpAny _ _ _ _ _ _); k_fold))
      k_steps
      any_goals (first | exact Str.empty | exact Value.none | exact (0 : Nat))
      unfold Hold
      have mD : (D, LCg.lst ys) ∈ z.own 52 (z.od w (1 + (rs.length : Nat)) zt) (W.listOf #[] 0) l n ++ (R, W.listOf refs.toArray cap) :: (116, tabO 102 18 z.q.c) :: (D, LCg.lst ys) :: (L + 1, oT) :: ps := List.mem_append_right _ (.tail _ (.tail _ (.head _)))
      refine' LCg.CompSrc.ledger ?q1 ?q2 ?q3 ?q4 ?q5 ?_
      (case q2 => exact F1)
      (case q3 => exact N1)
      (case q1 => exact rfl)
      (case q4 => exact mD)
      (case q5 => rw [PySem.sizeLine_eq, List.size_toArray, ← hra.len]; omega)
      intro g2
      refine rest_map (fun i v => NumIsR rs i v) ?_ (.inr ⟨_, mD, rfl, _, rfl⟩) ?_
      · intro i v ys2 I oI C oC D0 m₂ h tk E' hi hv hC hx F3 N3 off ne
        obtain ⟨a, r, t1, t2, hr, hm⟩ := hra.at (by simpa using hv)
        clear F1 N1
        (with_reducible show wpAny _ _ _ _ _ _)
        k_steps
        unfold Hold
        refine item_list (x := .int r.num t2) ⟨_, (N3 _ (.tail _ (.tail _ (.tail _ (List.mem_append_right _ (.tail _ (.tail _ (.tail _ (.tail _ hm))))))))).1, rfl, _, rfl⟩ (by decide) (by decide) rfl ?_
        (try unfold Hold)
        exact ⟨_, _, F3, N3, .mk r _ hr⟩
      · intro ys2 hyl hys D3 h3 tk3 F3 N3 o3
        clear F1 N1
        have hys2 := nums_are rs ys2 (by rw [hyl, List.size_toArray, hra.len]) hys
        clear hys hyl o3
        dsimp only
        (((try dsimp only); (with_reducible show wpAny _ _ _ _ _ _); k_fold))
        k_steps
        unfold Hold
        refine ne_intsK ⟨_, (N3 (R, W.listOf refs.toArray cap) (.tail _ (List.mem_append_right _ (.head _)))).1, rfl, cap, rfl⟩ hrf ⟨_, (N3 (D3, LCg.lst ys2) (.head _)).1, rfl, _, rfl⟩ hys2 (by show 4 + 3 + 64 < cLine; decide) ?_
        rw [decide_eq_true rfl]
        replace N3 := news_tl N3
        clear hys2
        (try dsimp only)
        k_steps
        unfold Hold
        (with_reducible rename Fr _ _ _ _ => F4)
        (with_reducible rename News _ _ _ _ => N4)
        refine assign_comp_cell (L := L) (cl := [(Str.ofString "told", L + 1)]) (n0 := Str.ofString ".0") (z := Str.ofString "told") F4 rfl (by with_unfolding_all rfl) (by with_unfolding_all rfl) rfl rfl (fun _ _ => rfl) (by decide) rfl rfl ?_
        (((try dsimp only); (with_reducible show wpAny _ _ _ _ _ _); k_fold))
        k_steps
        (try unfold Hold)
        (with_reducible rename IsRange _ _ _ _ _ _ _ _ => hrg)
        (with_reducible rename Fr _ _ _ _ => F5)
        (with_reducible rename News _ _ _ _ => N5)
        generalize hbase : z.own 52 (z.od w (1 + (rs.length : Nat)) zt) (W.listOf #[] 0) l n ++ (R, W.listOf refs.toArray cap) :: (116, tabO 102 18 z.q.c) :: (D, LCg.lst ys) :: (L + 1, oT) :: ps = base at N5
        have hmT : (L + 1, oT) ∈ base := hbase ▸ mem_ap4
        have hmR : (R, W.listOf refs.toArray cap) ∈ base := hbase ▸ List.mem_append_right _ (.head _)
        refine .mk _ 0 4 _ _ _ 4 _ _ (FigJ (rs.map Rp.num) base) rfl F5 N5 hrg rfl rfl (by decide) (.mk [] [] .nil (fun _ h => nomatch h)) ?_ ?_
        · clear F5 N5 hrg
          intro h tk i ys3 nw I C K D0 oI oK h2 tk2 t E' hi hyl hJ hK F6 N6 off f
          obtain ⟨ps2, hd, hap⟩ := hJ
          rw [Int.zero_add] at hK
          refine LCt.ListComp_T (F₀ := F6) (by with_unfolding_all rfl) (by decide) (by rfl) (by decide) (by rfl) ?_
          refine lcf_cell N6 rfl (.tail _ (.tail _ (.tail _ (.tail _ (List.mem_append_right _ hmT))))) hT ?_ rfl rfl
          refine LCt.CompSrcT.ledger rfl F6 N6 (.tail _ (.tail _ (.tail _ (.tail _ (List.mem_append_right _ hmR))))) (by rw [PySem.sizeLine_eq, List.size_toArray, hrf.length, List.length_map]; omega) ?_
          intro g3
          refine rest_acc (fun k ys4 => IntsAre ys4 (figI ((rs.map Rp.num).take k) i)) .nil ?_ (.inr ⟨_, .tail _ (.tail _ (.tail _ (.tail _ (List.mem_append_right _ hmR)))), rfl, _, rfl⟩) ?_
          · intro k v ys4 I2 oI2 C2 oC2 D2 m₂ h3 tk3 E2 hk hacc hv hC hx F7 N7
            obtain ⟨j, tj, rfl, hj⟩ := ints_get hrf (by simpa using hv)
            have hmK : (K, oK) ∈ (I2, oI2) :: (C2, oC2) :: (D2, LCg.lst ys4) :: led4 I C K D0 oI oK ys3 (ps2 ++ base) := .tail _ (.tail _ (.tail _ (.tail _ (.tail _ (.head _)))))
            have hpw := pow_facts hi
            have hjr : -3 ≤ j ∧ j < 16 := by
              obtain ⟨r, _, rfl⟩ := List.mem_map.mp (List.mem_of_getElem? hj)
              exact num_range r
            clear F6 N6 hv
            (try dsimp only)
            k_steps
            · unfold Hold
              exact ⟨_, _, F7, N7, fig_on hj (by assumption) hacc _⟩
            · unfold Hold
              exact ⟨_, _, F7, N7, fig_off hj (by assumption) hacc⟩
          · intro ys4 hacc D2 h3 tk3 F7 N7 o3
            exact .mk _ _ _ ((D2, LCg.lst ys4) :: (ps2 ++ base)) F7 (led_in N7) (led_off off o3) (fig_turn hd hap hyl (by rw [List.size_toArray, hrf.length]; exact Nat.le_refl _) hacc fun b hb => off1_mem o3 b (.tail _ (.tail _ (.tail _ (.tail _ (List.mem_append_right _ hb))))))
        · intro Dg h3 tk3 ys3 nw hyl hJ F6 N6 hap6
          k_unfold
          (try dsimp only)
          obtain ⟨ps2, hd, hap⟩ := hJ
          obtain ⟨haD, hbD⟩ := law_D ha hb hbase hap hap6
          replace N6 := news_D N6 hbase
          rw [hyl] at hd
          clear hap hap6 hmT hmR hbase ha hb
          refine (?rD : ∀ s', LawD PySem.Challenge.rw_pm0015_02.row.prog w (Mine.hd.heap_39 w.params) p loose mean mg mb g L 52 116 102 18 s₁ .next s' → wpAny _ _ _ _ _ s') _ (.mk _ _ _ ys refs ys3 ps2 rs D R Dg oT z zt l n cap hra.len hrl htx hrf F6 N6 hT (by exact hmr) (by exact hml) rfl hd haD hbD)
          clear N6 F6 hd haD hbD hra hrl htx hrf hT hmr hml
          rintro s' ⟨h2, tk2, m2, ys, refs, fs, ps, rs, D, R, Dg, oT, z, zt, l, n, cap, hra, hrl, htx, hrf, F1, N1, hT, hmr, hml, hmf, hd, ha, hb⟩
          k_steps
          (try any_goals (first | exact Str.empty | exact Value.none | exact (0 : Nat)))
          unfold Hold
          refine LCt.ListComp_T (F₀ := F1) (by with_unfolding_all rfl) (by decide) (by rfl) (by decide) (by rfl) ?_
          (((try dsimp only); (with_reducible show wpAny _ _ _ _ _ _); k_fold))
          k_steps
          (try any_goals (first | exact Str.empty | exact Value.none | exact (0 : Nat)))
          unfold Hold
          have hfl : fs.length = 4 := by rw [dat_len hd, List.length_map, List.length_map, List.length_range]
          refine LCt.CompSrcT.ledger rfl F1 N1 (List.mem_append_right _ (.tail _ (.tail _ (.tail _ (.tail _ (.head _)))))) (by rw [PySem.sizeLine_eq, List.size_toArray, hfl]; decide) ?_
          intro g3
          refine rest_acc (fun k ys4 => DueJ ps ((List.range 4).map (figI (rs.map Rp.num))) k ys4) ⟨.nil⟩ ?_ (.inr ⟨_, List.mem_append_right _ (.tail _ (.tail _ (.tail _ (.tail _ (.head _))))), rfl, _, rfl⟩) ?_
          · intro k v ys4 I2 oI2 C2 oC2 D2 m₂ h3 tk3 E2 hk hacc hv hC hx F7 N7
            obtain ⟨c, hc, ⟨a, vs, n5, hm5, hi5⟩, hdv⟩ := dat_lines hd (by simpa using hv)
            clear F1 N1 hv
            (try dsimp only)
            k_steps
            unfold Hold
            (with_reducible rename Fr _ _ _ _ => F8)
            (with_reducible rename News _ _ _ _ => N8)
            refine ne_intsK (us := []) (ms := []) ⟨_, (N8 (a, W.listOf vs.toArray n5) (.tail _ (.tail _ (.tail _ (.tail _ (List.mem_append_right _ (.tail _ (.tail _ (.tail _ (.tail _ (.tail _ hm5))))))))))).1, rfl, n5, rfl⟩ hi5 ⟨_, (N8 _ (.head _)).1, rfl, 0, rfl⟩ .nil (by show 4 + 3 + 64 < cLine; decide) ?_
            by_cases h0 : c = []
            · rw [decide_eq_true h0]
              (try dsimp only)
              k_steps
              unfold Hold
              exact ⟨_, _, F8, news_tl N8, due_off hc h0 hacc⟩
            · rw [decide_eq_false h0]
              (try dsimp only)
              k_steps
              unfold Hold
              exact ⟨_, _, F8, news_tl N8, due_on hc h0 hdv hacc⟩
          · intro ys4 hacc D2 h3 tk3 F7 N7 o3
            clear F1 N1
            (try dsimp only)
            k_steps
            (try unfold Hold)
            (with_reducible rename Fr _ _ _ _ => F8)
            (with_reducible rename News _ _ _ _ => N8)
            rename_i e _ hlt1 _ _ _
            have hdu := due_all (e := e) hfl hacc
            refine add_lists (vs := ys4) (ws := [Value.ref _]) F8 N8 ⟨_, (N8 (D2, LCg.lst ys4) (.tail _ (.tail _ (.head _)))).1, rfl, _, rfl⟩ ⟨_, (N8 _ (.head _)).1, rfl, _, rfl⟩ ?_ ?hz
            (case hz => exact due_fit hdu)
            intro h9 F9 N9
            have hbE := law_E hb rfl hlt1.2 fun q hq => Heap.lt_size (N8 q hq).1
            replace N9 := news_E N9
            clear F8 N8 hb hlt1 hacc hd hfl
            k_steps
            (try any_goals (first | exact Str.empty | exact Value.none | exact (0 : Nat)))
            unfold Hold
            (with_reducible rename Fr _ _ _ _ => F10)
            (with_reducible rename News _ _ _ _ => N10)
            refine (?rE : ∀ s', LawE PySem.Challenge.rw_pm0015_02.row.prog w (Mine.hd.heap_39 w.params) p loose mean mg mb g L 52 116 102 18 D s₁ .next s' → wpAny _ _ _ _ _ s') _ (.mk _ _ _ ys refs _ _ rs R _ oT z zt l n cap hra hrl htx hrf F10 N10 hT (by exact hmr) (by exact hml) rfl hdu ha hbE)
            clear F10 N10 ha hbE hra hrl htx hrf hT hmr hml hdu
            rintro s' ⟨h2, tk2, m2, ys, refs, us, ps, rs, R, Du, oT, z, zt, l, n, cap, hra, hrl, htx, hrf, F1, N1, hT, hmr, hml, hmd, hd, ha, hb⟩
            refine kun_lenL (items := ys.toArray) (k := (rs.length : Nat)) ⟨_, (N1 (D, LCg.lst ys) (List.mem_append_right _ (.tail _ (.tail _ (.head _))))).1, rfl, _, rfl⟩ (by rw [List.size_toArray, hra]) (by omega) ?_
            k_steps
            (try any_goals (first | exact Str.empty | exact Value.none | exact (0 : Nat)))
            unfold Hold
            (with_reducible rename Fr _ _ _ _ => F2)
            (with_reducible rename News _ _ _ _ => N2)
            (with_reducible rename KtsDicts _ _ => DD)
            have hrl1 := rest_len (.inl htx)
            have hnm := nums_at rs hrl
            have hdu := rounds_due rs hrl
            refine ctr_use (rounds_k w z ha.hz (1 + (rs.length : Nat)) zt 0 l n hrl1.1 ha.hS ha.hl ha.hc R refs cap _ hrf hnm.1 hnm.2 ha.hR 0 _ hrl1.2 30 (by decide) hdu.1) B F2 X T DD (news_two N2) rfl rfl (by decide) (by decide) (hb.hap rfl) ?_
            rintro v own' h3 tk3 ⟨R1, l1, pre1, n1, npb1, t1, ps1, hp1, hl1, hd1, h41⟩ F3 N3 -
            obtain ⟨e1, hl2⟩ := nls_rest htx hp1 hl1
            rw [e1] at hd1 N3
            replace N3 := news_two2 N3
            have hb2 := hb.more ha h41
            clear F2 N2 hrl1 hp1 hl1 h41 e1
            (try dsimp only)
            k_steps
            (try any_goals (first | exact Str.empty | exact Value.none | exact (0 : Nat)))
            unfold Hold
            have hrl2 := rest_len (.inr hl2)
            refine ctr_use (rounds_k w z ha.hz _ t1 npb1 l1 n1 hrl2.1 ha.hS ha.hl ha.hc R refs cap _ hrf hnm.1 hnm.2 ha.hR 1 _ hrl2.2 30 (by decide) hdu.1) B F3 X T DD N3 rfl rfl (by decide) (by decide) (hb2.hap (List.map_append ..)) ?_
            rintro v own' h5 tk5 ⟨R2, l2, pre2, n2, npb2, t2, ps2, hp2, hl3, hd2, -⟩ F4 N4 -
            rw [nls_rest2 hl2 hp2 hl3] at hd2 N4
            clear F3 N3 hrl2 hp2 hl3 hl2 hnm hb2 hrf
            (try dsimp only)
            k_steps
            (try any_goals (first | exact Str.empty | exact Value.none | exact (0 : Nat)))
            unfold Hold
            (with_reducible rename Fr _ _ _ _ => F5)
            (with_reducible rename News _ _ _ _ => N5)
            refine told_eq N5 hd1 hd2 hd hdu.2 (by show 4 + 3 + 64 < cLine; decide) ?_
            clear hd1 hd2 hd hdu hb
            k_steps
            (try any_goals (first | exact Str.empty | exact Value.none | exact (0 : Nat)))
            (try unfold Hold)
            obtain ⟨vsc, tc, ec1, ec2⟩ := ha.hz.code
            exact ⟨g, L, _, _, rfl, .refl, F5, news_fin N5, rfl, .inr ⟨z.q.c, z.oc, vsc, tc, ha.hc, rfl, ec1, ec2⟩⟩)
    k_fold
    k_steps
    unfold Hold
    refine LCg.ListComp_U (F₀ := F1) (by with_unfolding_all rfl) (by decide) (by rfl) (by decide) (by rfl) ?_
    (((try dsimp only); (with_reducible show wpAny _ _ _ _ _ _); k_fold))
    k_steps
    any_goals (first | exact Str.empty | exact Value.none | exact (0 : Nat))
    unfold Hold
    refine' LCg.CompSrc.ledger ?q1 ?q2 ?q3 ?q4 ?q5 ?_
    (case q2 => exact F1)
    (case q3 => exact N1)
    (case q1 => exact rfl)
    (case q4 => exact List.mem_cons_self ..)
    (case q5 => rw [PySem.sizeLine_eq, List.size_toArray, ← hra.len]; omega)
    intro g2
    refine rest_map (fun i v => LineIs rs i v) ?_ (.inr ⟨_, List.mem_cons_self .., rfl, _, rfl⟩) ?_
    · intro i v ys2 I oI C oC D0 m₂ h tk E' hi hv hC hx F3 N3 off ne
      obtain ⟨a, r, t1, t2, hr, hm⟩ := hra.at (by simpa using hv)
      have hlen := rep_len r
      clear F1 N1
      (with_reducible show wpAny _ _ _ _ _ _)
      k_steps
      unfold Hold
      refine item_list (x := .str (repS r.k r.n r.m) t1) ⟨_, (N3 _ (.tail _ (.tail _ (.tail _ (.tail _ (.tail _ (.tail _ hm))))))).1, rfl, _, rfl⟩ (by decide) (by decide) rfl ?_
      k_steps
      (try unfold Hold)

      exact ⟨_, _, F3, N3, .mk r _ hr⟩
    · intro ys2 hyl hys D3 h3 tk3 F3 N3 o3
      clear F1 N1
      dsimp only
      (((try dsimp only); (with_reducible show wpAny _ _ _ _ _ _); k_fold))
      k_steps
      unfold Hold
      refine join_listC (ys := rs.map lnS) ⟨_, (N3 (D3, LCg.lst ys2) (List.mem_cons_self ..)).1, rfl, _, rfl⟩ (lines_are rs ys2 (by rw [hyl, List.size_toArray, hra.len]) hys) (by decide) (lines_fit hrl) ?_
      intro t3 k3
      have hx := text_eq rs
      obtain ⟨hjl, hxl⟩ := join_len hrl
      generalize Txt.join (Str.ofString "") (rs.map lnS) = jn at hx hjl hxl ⊢
      (((try dsimp only); (with_reducible show wpAny _ _ _ _ _ _); k_fold))
      k_steps
      unfold Hold
      (with_reducible rename Fr _ _ _ _ => F4)
      (with_reducible rename News _ _ _ _ => N4)
      replace N4 := news_pickT (M := [((116 : Addr), tabObj #[])] ++ ((DR, LCg.lst ys) :: (L + 1, oT) :: ps)) N4 [3, 1, 2] 4 rfl
      generalize jn ++ Str.ofString "\"\"\nend\nend\n" = text at hx hxl ⊢
      have hnt : ∀ q ∈ (DR, LCg.lst ys) :: (L + 1, oT) :: ps, q.1 ≠ (116 : Addr) := fun q hq => no_tab N4 (.head _) (.tail _ hq) (by
        rcases List.mem_cons.mp hq with rfl | hq
        · exact list_tab
        rcases List.mem_cons.mp hq with rfl | hq
        · exact cell_tab hT
        obtain ⟨vs, n, e⟩ := hra.obj q hq
        rw [e]; exact list_tab)
      refine ctr_use (lexer2_k w [((116 : Addr), tabObj #[])] (.inl rfl) text _ hxl) B F4 X T D N4 rfl rfl (by decide) (by decide) (fun q hq hm => hnt q hq (List.mem_singleton.mp hm)) ?_
      rintro v own' h5 tk5 ⟨z, zt, l, n, hlt2, hPS, hPl, hPc, hz, -⟩ F5 N5 hap
      rw [hx] at hlt2
      have hat := LexAt.of (oP := tabObj #[]) hz hPS hPl hPc hnt hap
      clear F4 N4 hap hnt
      replace N5 := news_mv N5
      dsimp only
      k_steps
      (try unfold Hold)
      (with_reducible rename Fr _ _ _ _ => F6)
      (with_reducible rename News _ _ _ _ => N6)
      exact .mk _ _ _ ys ps rs DR oT z zt l n hra hrl hlt2 F6 N6 hT (by exact hmr) (by rfl) hat)
  k_fold
  k_steps
  unfold Hold
  (with_reducible rename Fr _ _ _ _ => F1)
  (with_reducible rename News _ _ _ _ => N1)
  refine LCg.Assign_ListComp_U (F₀ := F1) (by rfl) (by with_unfolding_all rfl) (by with_unfolding_all rfl) (by decide) (by rfl) (by decide) (by rfl) (by rfl) (by rfl) ?_
  (((try dsimp only); (with_reducible show wpAny _ _ _ _ _ _); k_fold))
  k_steps
  any_goals (first | exact Str.empty | exact Value.none | exact (0 : Nat))
  unfold Hold
  dsimp only
  (with_reducible rename Fr _ _ _ _ => F2)
  (with_reducible rename News _ _ _ _ => N2)
  (with_reducible rename IntsAre _ (_ ++ _) => hI2)
  rename_i D9 ws9 hh9 hx9
  have hvl : (slicePick ws9.toArray none (some 5) none).toList.length ≤ 5 := by
    have h1 := (kmk_upto hI2 (show (0 : Int) ≤ 5 by decide)).length
    rw [h1, List.length_take]; exact Nat.min_le_left ..
  have hI5 := kmk_upto hI2 (show (0 : Int) ≤ 5 by decide)
  refine slice_anyN F2 N2 (lo := none) (hi := some 5) ⟨_, (N2 (D9, W.listOf ws9.toArray 0) (List.mem_cons_self ..)).1, rfl, _, rfl⟩ .none (.int _ _) (by rw [List.size_toArray, hI2.length, List.length_append, PySem.sizeLine_eq]; simp only [List.length_cons, List.length_nil]; omega) ?_ (by with_unfolding_all rfl) (fun _ => rfl)
  intro D1 h3 F3 N3 l3
  replace N3 := news_pick (M := [(D1, W.listOf (slicePick ws9.toArray none (some 5) none) 0), (L + 1, _), ((116 : Addr), tabObj #[])]) N3 [0, 3, 4] rfl
  generalize slicePick ws9.toArray none (some 5) none = its at hvl hI5 N3
  clear F2 N2
  refine' LCg.CompSrc.ledger ?q1 ?q2 ?q3 ?q4 ?q5 ?_
  (case q2 => exact F3)
  (case q3 => exact N3)
  (case q1 => exact rfl)
  (case q4 => exact List.mem_cons_self ..)
  (case q5 => rw [PySem.sizeLine_eq, ← Array.length_toList]; omega)
  intro g2
  refine rest_grow (fun ys nw => RepJ D1 L 116 its _ ys nw) (.mk [] [] [] .nil) ?_ ?_
  · rintro i v ys nw I oI C oC D0 m₂ h tk E' hi hyl hv ⟨ps, rs, hra⟩ hC hx F4 N4 off ne
    obtain ⟨k, t, rfl, hk⟩ := IntsAre.at hI5 i v (by simpa using hv)
    clear F3 N3
    (with_reducible show wpAny _ _ _ _ _ _)
    k_steps
    unfold Hold
    refine ctr_use (own := []) (reply_k w k t) B F4 X T D N4 rfl rfl (by decide) (by decide) (fun _ _ h => nomatch h) ?_
    rintro v own' h5 tk5 ⟨k1, n1, m1, R, t1, t2, hk1, hn1, hm1, rfl, rfl⟩ F5 N5 hnw
    have hR := (hnw _ (List.mem_cons_self ..)).resolve_left (fun h => nomatch h)
    refine ⟨h5, tk5, (R, W.listOf #[.str (repS k1 n1 m1) t1, .int (repN k1 n1) t2] 0) :: (ps ++ _), rfl, F5, news_sub N5 (fun q hq => ?_), ⟨⟨hR (I, oI) (by simp), hR (C, oC) (by simp), hR (D0, LCg.lst ys) (by simp)⟩, off⟩, .inr ⟨_, List.mem_cons_of_mem _ (List.mem_append_right _ (List.mem_cons_self ..)), rfl, _, rfl⟩, .mk _ _ (rs ++ [⟨k1, n1, m1, hk1, hn1, hm1⟩]) (.snoc R ⟨k1, n1, m1, hk1, hn1, hm1⟩ t1 t2 hra)⟩
    · simp only [List.mem_cons, List.cons_append, List.nil_append] at hq ⊢
      rcases hq with h | h | h | h | h <;> simp only [h, true_or, or_true]
  · intro ys nw hyl hJ D3 h3 tk3 F3 N3 o3
    obtain ⟨ps, rs, hra⟩ := hJ
    have hrl : rs.length ≤ 5 := by rw [hra.len, hyl, ← Array.length_toList]; exact hvl
    have N4 := news_sub (N := (D3, LCg.lst ys) :: (L + 1, _) :: ((116 : Addr), tabObj #[]) :: ps) N3 (fun q hq => by
      simp only [List.mem_cons, List.mem_append, List.not_mem_nil, or_false] at hq ⊢
      rcases hq with h | h | h | h
      · exact .inl h
      · exact .inr (.inr (.inr (.inl h)))
      · exact .inr (.inr (.inr (.inr h)))
      · exact .inr (.inl h))
    clear hvl hI5 N3 hyl hsl
    dsimp only
    k_steps
    (try unfold Hold)
    exact .mk _ _ _ ys ps rs D3 _ hra hrl F3 N4 (by assumption) (by rfl))

end
end
end Mine
set_option maxHeartbeats 4000000 in
theorem PySem.Challenge.cw_pm0015_02_holds : PySem.Challenge.rw_pm0015_02.Holds := by
  exact Mine.law2
