import PyProof.Rows.All
import Wide.All
import OpenK.AllK
import Wide.FinOn
import Lean
import PySem.Challenge.RW_pm0015_01
open PySem PySem.W PyProof.Rows PySem.Calls PySem.Spec PySem.Builtin.Str
set_option Elab.async false
set_option maxRecDepth 100000
namespace Mine
-- part fw
theorem snoc_at {α : Type _} {l : List α} {x v : α} {i : Nat} (h : (l ++ [x])[i]? = some v) : (i < l.length ∧ l[i]? = some v) ∨ (i = l.length ∧ v = x) := by
  rcases Nat.lt_trichotomy i l.length with hl | rfl | hl
  · exact .inl ⟨hl, by rwa [List.getElem?_append_left hl] at h⟩
  · exact .inr ⟨rfl, by rw [List.getElem?_concat_length] at h; exact (Option.some.inj h).symm⟩
  · rw [List.getElem?_eq_none (by rw [List.length_append]; exact hl)] at h; cases h

/-- the surroundings of a call, written out -/
noncomputable abbrev mA (dp un : Nat) (gd : Option (List Code)) (fr : List Env) : Around := { handled := none, depth := dp, frames := some fr, guards := gd, units := un }
noncomputable abbrev hid (h : Heap) (own : List (Addr × Obj)) : Heap := hideAll h (own.map (·.1))

/-- what a call leaves: from s to s', the ledger own turned into own' -/
structure Ret (s : Shared) (own : List (Addr × Obj)) (s' : Shared) (own' : List (Addr × Obj)) : Prop where
  same : s' = { s with heap := s'.heap, toks := s'.toks }
  keep : ∀ b o, s.heap.get? b = some o → b ∉ own.map (·.1) → s'.heap.get? b = some o
  at_ : ∀ p ∈ own', s'.heap.get? p.1 = some p.2
  from_ : ∀ p ∈ own', p.1 ∈ own.map (·.1) ∨ s.heap.get? p.1 = none

/-- what a raise leaves -/
inductive FlewB (base : Heap) (fr : List Env) (g : Heap) (err : Value → List Value → Prop) (errN : String → Prop) (v : Value) (h' : Heap) : Prop
  | S (e t : Addr) (cls : Value) (vs : List Value) (hv : v = .ref e) (R : RaisedS base g fr e cls t vs [] h') (h : err cls vs)
  | N (e : Addr) (X : String) (hv : v = .ref e) (R : RaisedSN base g fr e (.type X) [] h') (h : errN X)
structure Flew (base : Heap) (fr : List Env) (g : Heap) (err : Value → List Value → Prop) (errN : String → Prop) (s : Shared) (v : Value) (s' : Shared) : Prop where
  same : s' = { s with heap := s'.heap, toks := s'.toks }
  up : g.UpToSlots s'.heap
  how : FlewB base fr g err errN v s'.heap
noncomputable abbrev fsOf (fr : List Env) : List Addr := fr.filterMap (·.frame)

/-- a contract of a def -/
noncomputable def Ctr (prog : Program) (w : World) (K : Frag) (p : Program) (loose : List Str) (mean : ExcName → Option Value) (mg mb : Str → Option Value)
    (d u : Nat) (f : Addr) (args : List Value) (own : List (Addr × Obj)) (post : Value → List (Addr × Obj) → Prop) (err : Value → List Value → Prop) (errN : String → Prop) : Prop :=
  ∀ (dp un : Nat) (gd : Option (List Code)) (fr : List Env) (base : Heap) (s : Shared) (R : Result → Shared → Prop),
    Below (mA dp un gd fr) base fr (hid s.heap own) → K.In (hid s.heap own) → Top p loose mean mg mb (hid s.heap own) → KtsDicts (fsOf fr) (hid s.heap own) → dp + d < recursionLimit → un + u < cLine →
    (∀ q ∈ own, s.heap.get? q.1 = some q.2) →
    (∀ v s' own', Ret s own s' own' → post v own' → R (.ok (.ret v)) s') →
    (∀ v s', Flew base fr (hid s.heap own) err errN s v s' → R (.error v) s') →
    codeAny (model prog w) (mA dp un gd fr) (.call (.ref f) ⟨args, []⟩) R s

/-- the end of a def's body -/
inductive Lv (s : Shared) (g : Heap) (post : Value → List (Addr × Obj) → Prop) (v : Value) (s' : Shared) : Prop
  | mk (L' : Addr) (m' : Str → Option Value) (own' : List (Addr × Obj)) (e : s' = { s with heap := s'.heap, toks := s'.toks }) (F : Fr g L' s'.heap m') (N : News g L' s'.heap own') (p : post v own')
theorem hid_none {h : Heap} {own : List (Addr × Obj)} {b : Addr} (e : (hid h own).get? b = none) : b ∈ own.map (·.1) ∨ h.get? b = none := by
  cases q : h.get? b with
  | none => exact .inr rfl
  | some o =>
    left
    apply Classical.byContradiction
    intro hn
    have := hideAll_get (own.map (·.1)) q hn
    rw [this] at e; cases e

theorem Lv.ret {s : Shared} {own : List (Addr × Obj)} {post : Value → List (Addr × Obj) → Prop} {v : Value} {s' : Shared} (h : Lv s (hid s.heap own) post v s') : ∃ own', Ret s own s' own' ∧ post v own' := by
  obtain ⟨L', m', own', e, F, N, hp⟩ := h
  exact ⟨own', ⟨e, fun b o q hn => F.keep b o (hideAll_get _ q hn), fun p hp => (N p hp).1, fun p hp => hid_none (N p hp).2.2⟩, hp⟩
theorem news_sub {h₀ h : Heap} {L : Addr} {N N' : List (Addr × Obj)} (hN : News h₀ L h N') (hs : ∀ q ∈ N, q ∈ N') : News h₀ L h N := fun q hq => hN q (hs q hq)
theorem news_pick {h₀ h : Heap} {L : Addr} {N M : List (Addr × Obj)} (hN : News h₀ L h N) (is : List Nat) (e : M = is.filterMap (fun i => N[i]?)) : News h₀ L h M := fun q hq => by
  rw [e] at hq
  obtain ⟨i, -, hi⟩ := List.mem_filterMap.mp hq
  exact hN q (List.mem_of_getElem? hi)
/-- some of the ledger's objects, and all behind the k-th -/
theorem news_pickT {h₀ h : Heap} {L : Addr} {N M : List (Addr × Obj)} (hN : News h₀ L h N) (is : List Nat) (k : Nat) (e : M = is.filterMap (fun i => N[i]?) ++ N.drop k) : News h₀ L h M := fun q hq => by
  rw [e] at hq
  rcases List.mem_append.mp hq with hq | hq
  · obtain ⟨i, -, hi⟩ := List.mem_filterMap.mp hq
    exact hN q (List.mem_of_getElem? hi)
  · exact hN q (List.mem_of_mem_drop hq)
/-- a name is stored: the new frame gets a name of its own -/
theorem storeX_Lm {M : Model} {A : Around} {Q : Unit → Shared → Prop} {E : Value → Shared → Prop} {s : Shared} {h₀ : Heap} {L : Addr} {m : Str → Option Value} {news : List (Addr × Obj)} {cn : Str} {cs : Scope} {a : Addr} {ccd : Value} {cl : List (Str × Addr)} {x : Str} {v : Value} (F : Fr h₀ L s.heap m) (N : News h₀ L s.heap news)
    (h : let m' : Str → Option Value := fun y => if y = x then some v else m y; ∀ h', Fr h₀ L h' m' → News h₀ L h' news → Q () { s with heap := h', toks := s.toks + 1 })
    (hk : cs.kind = .function := by rfl) (hx : (PySem.W.envX cn cs L a ccd cl).kindOf x = some .local := by rfl) : wpAny M A (storeName (PySem.W.envX cn cs L a ccd cl) x v) Q E s :=
  PySem.W.storeX_L F N h hk hx
theorem lt_up {d n R : Nat} (k : Nat) (h : d + n < R) (hk : Nat.ble k n = true) : d + k < R := Nat.lt_of_le_of_lt (Nat.add_le_add_left (Nat.le_of_ble_eq_true hk) d) h
theorem raisedS_sub {base G : Heap} {l : List Env} {e t : Addr} {cls : Value} {vs : List Value} {news : List (Addr × Obj)} {h : Heap} (R : RaisedS base G l e cls t vs news h) : RaisedS base G l e cls t vs [] h := by
  obtain ⟨⟨B, hB, hBG, _, hfl, hnew⟩, htup⟩ := R
  exact ⟨⟨B, hB, hBG, (fun _ h => nomatch h), hfl, hnew⟩, htup⟩
theorem raisedSN_sub {base G : Heap} {l : List Env} {e : Addr} {cls : Value} {news : List (Addr × Obj)} {h : Heap} (R : RaisedSN base G l e cls news h) : RaisedSN base G l e cls [] h := by
  obtain ⟨B, a0, hB, hBG, _, hfl⟩ := R
  exact ⟨B, a0, hB, hBG, (fun _ h => nomatch h), hfl⟩
theorem flew_S {base : Heap} {fr : List Env} {g : Heap} {err : Value → List Value → Prop} {errN : String → Prop} {s : Shared} {h : Heap} {tk : Nat} {e t : Addr} {cls : Value} {vs : List Value} {news : List (Addr × Obj)}
    (R : RaisedS base g fr e cls t vs news h) (U : g.UpToSlots h) (he : err cls vs) : Flew base fr g err errN s (.ref e) { s with heap := h, toks := tk } :=
  ⟨rfl, U, .S e t cls vs rfl (raisedS_sub R) he⟩
theorem flew_N {base : Heap} {fr : List Env} {g : Heap} {err : Value → List Value → Prop} {errN : String → Prop} {s : Shared} {h : Heap} {tk : Nat} {e : Addr} {X : String} {news : List (Addr × Obj)}
    (R : RaisedSN base g fr e (.type X) news h) (U : g.UpToSlots h) (he : errN X) : Flew base fr g err errN s (.ref e) { s with heap := h, toks := tk } :=
  ⟨rfl, U, .N e X rfl (raisedSN_sub R) he⟩
noncomputable abbrev noErr : Value → List Value → Prop := fun _ _ => False
noncomputable abbrev noErrN : String → Prop := fun _ => False
theorem flew_no {base : Heap} {fr : List Env} {g : Heap} {s : Shared} {v : Value} {s' : Shared} (h : Flew base fr g noErr noErrN s v s') : False := by
  obtain ⟨_, _, h⟩ := h
  rcases h with ⟨_, _, _, _, _, _, h⟩ | ⟨_, _, _, _, h⟩ <;> exact h

section
variable {prog : Program} {w : World} {K : Frag} {p : Program} {loose : List Str} {mean : ExcName → Option Value} {mg mb : Str → Option Value} {d u : Nat} {f : Addr} {args : List Value} {own : List (Addr × Obj)}
  {post : Value → List (Addr × Obj) → Prop} {err : Value → List Value → Prop} {errN : String → Prop}

/-- a plain def is entered -/
theorem ctr_enter {name qual : Str} {params : Arguments} {body : List Stmt} {scope : Scope} {dV kV doc pm cdv ct oc : Value} {an od : Option Addr} {osl : Array (Option Value)} {binds : List (Str × Value)}
    (ho : K.lookup f = some ⟨oc, od, .func (fnOf name qual params body scope dV kV doc pm an cdv ct), osl⟩) (hcd : codeIn K cdv qual = true)
    (hbind : ∀ s, BindsTo s (fnOf name qual params body scope dV kV doc pm an cdv ct) ⟨args, []⟩ binds) (hloc : ∀ y ∈ binds, scope.names.lookup y.1 = some .local)
    (h : ∀ (dp un : Nat) (gd : Option (List Code)) (fr : List Env) (base g : Heap) (L : Addr) (h₁ : Heap) (s : Shared), dp + d < recursionLimit → un + u < cLine →
      g = hid s.heap own → Below (mA dp un gd fr) base fr g → Fr g L h₁ (fun y => binds.reverse.lookup y) → News g L h₁ own → K.In g → Top p loose mean mg mb g → (∀ q ∈ own, q.1 < L) → KtsDicts (fsOf fr) g →
      wpAny (model prog w) ((mA dp un gd fr).deeper (envOf qual scope L f cdv)) (execs body (envOf qual scope L f cdv))
        (fun fl s' => Lv s g post (match fl with | .ret v => v | _ => .none) s')
        (fun e s' => wpAny (model prog w) ((mA dp un gd fr).deeper (envOf qual scope L f cdv)) (leaving (envOf qual scope L f cdv) e) (fun _ s'' => Flew base fr g err errN s e s'') (fun e' s'' => Flew base fr g err errN s e' s'') s')
        { s with heap := h₁, toks := s.toks + binds.length })
    (hco : scope.isCoroutine = false) (hgen : scope.isGenerator = false) (hk : scope.kind = .function)
    (hcell : ∀ x ∈ scope.names, x.2 ≠ .cell) (hroom : 0 < d := by decide) : Ctr prog w K p loose mean mg mb d u f args own post err errN := by
  intro dp un gd fr base s R BG X T DG hd hu hown hret herr
  have hX : K.In s.heap := fun a o e => of_hideAll _ (X a o e)
  have hl : s.heap.NoLimit := T.nolimit.keeps fun b o e => of_hideAll _ e
  refine codeAny_call_def (fd := fnOf name qual params body scope dV kV doc pm an cdv ct) (body := body) (binds := binds) (Nat.lt_of_le_of_lt (Nat.le_add_right dp d) hd) (hX _ _ ho) rfl hl (codeRec_of hX hcd) rfl (hbind s) hcell hloc (fun h₁ hns hk₁ => ?_) hco hgen hk
  refine wpAny_mono (h dp un gd fr base _ s.heap.objs.size h₁ s hd hu rfl BG ⟨hns, fun b o e => hk₁ b o (of_hideAll _ e), Nat.le_of_eq (hideAll_size _ _)⟩
    (fun q hq => ⟨hk₁ _ _ (hown q hq), Nat.ne_of_lt (Heap.lt_size (hown q hq)), hideAll_none _ (List.mem_map_of_mem hq)⟩) X T (fun q hq => Heap.lt_size (hown q hq)) DG) (fun fl s' hl => ?_) fun e s' y => ?_
  · obtain ⟨own', hr, hp⟩ := hl.ret
    exact hret _ _ _ hr hp
  · exact wpAny_mono y (fun _ s'' hl => herr _ _ hl) fun e' s'' hl => herr _ _ hl

/-- what a caller keeps over a call -/
theorem ret_back {h₀ : Heap} {L : Addr} {m : Str → Option Value} {s s' : Shared} {rest own' : List (Addr × Obj)} (F : Fr h₀ L s.heap m) (N : News h₀ L s.heap (own ++ rest)) (hap : ∀ q ∈ rest, q.1 ∉ own.map (·.1)) (r : Ret s own s' own') :
    Fr h₀ L s'.heap m ∧ News h₀ L s'.heap (own' ++ rest) ∧ ∀ a ∈ own', a.1 ∈ own.map (·.1) ∨ ∀ q ∈ rest, a.1 ≠ q.1 := by
  have No : News h₀ L s.heap own := fun q hq => N q (List.mem_append_left _ hq)
  have nm : ∀ b o, h₀.get? b = some o → b ∉ own.map (·.1) := fun b o e q => by
    obtain ⟨q', hq, rfl⟩ := List.mem_map.mp q
    rw [(No q' hq).2.2] at e; cases e
  have nL : L ∉ own.map (·.1) := fun q => by
    obtain ⟨q', hq, e⟩ := List.mem_map.mp q
    exact (No q' hq).2.1 e
  obtain ⟨oL, es, ep, hL, hLd, hLk, hLf⟩ := F.ns
  refine ⟨⟨⟨oL, es, ep, r.keep L oL hL nL, hLd, hLk, hLf⟩, fun b o e => r.keep b o (F.keep b o e) (nm b o e), F.above⟩, fun q hq => ?_, fun a ha => ?_⟩
  · rcases List.mem_append.mp hq with hq | hq
    · refine ⟨r.at_ q hq, ?_, ?_⟩
      · rcases r.from_ q hq with h1 | h1
        · exact fun e => nL (e ▸ h1)
        · intro e; rw [e, hL] at h1; cases h1
      · rcases r.from_ q hq with h1 | h1
        · obtain ⟨q', hq', e⟩ := List.mem_map.mp h1
          have := (No q' hq').2.2
          rw [e] at this; exact this
        · cases q2 : h₀.get? q.1 with
          | none => rfl
          | some o => rw [F.keep _ _ q2] at h1; cases h1
    · have z := N q (List.mem_append_right _ hq)
      exact ⟨r.keep _ _ z.1 (hap q hq), z.2⟩
  · rcases r.from_ a ha with h1 | h1
    · exact .inl h1
    · refine .inr fun q hq e => ?_
      rw [e, (N q (List.mem_append_right _ hq)).1] at h1; cases h1
theorem dicts_push {h₀ h : Heap} {L : Addr} {m : Str → Option Value} {own : List (Addr × Obj)} {outer : List Env} {env : Env} (F : Fr h₀ L h m) (No : News h₀ L h own) (D : KtsDicts (fsOf outer) h₀) (hf : env.frame = some L) (st : h₀.StaysIn (hid h own)) : KtsDicts (fsOf (env :: outer)) (hid h own) := by
  intro b hb
  obtain ⟨env', he, hf'⟩ := List.mem_filterMap.mp hb
  rcases List.mem_cons.mp he with rfl | he
  · obtain rfl : L = b := Option.some.inj (hf.symm.trans hf')
    obtain ⟨oL, es, ep, hL, hLd, _⟩ := F.ns
    refine ⟨oL, es, ep, hideAll_get _ hL fun q => ?_, hLd⟩
    obtain ⟨q', hq, e⟩ := List.mem_map.mp q
    exact (No q' hq).2.1 e
  · obtain ⟨o, es, n, ho, hd⟩ := D b (List.mem_filterMap.mpr ⟨env', he, hf'⟩)
    exact ⟨o, es, n, st _ _ ho, hd⟩

/-- a contract is used at a call; a raise goes on -/
theorem ctr_useE (C : Ctr prog w K p loose mean mg mb d u f args own post err errN) {A₀ : Around} {base h₀ : Heap} {outer : List Env} {env : Env} {L : Addr} {m : Str → Option Value} {s : Shared} {rest : List (Addr × Obj)} {dp un : Nat} {gd : Option (List Code)}
    {Q E : Value → Shared → Prop}
    (B : Below A₀ base outer h₀) (F : Fr h₀ L s.heap m) (X : K.In h₀) (T : Top p loose mean mg mb h₀) (D : KtsDicts (fsOf outer) h₀) (N : News h₀ L s.heap (own ++ rest)) (hf : env.frame = some L) (hke : env.scope.kind = .function)
    (hd : dp + d < recursionLimit) (hu : un + u < cLine) (hap : ∀ q ∈ rest, q.1 ∉ own.map (·.1))
    (h : ∀ v own' h' tk', post v own' → Fr h₀ L h' m → News h₀ L h' (own' ++ rest) → (∀ a ∈ own', a.1 ∈ own.map (·.1) ∨ ∀ q ∈ rest, a.1 ≠ q.1) → Q v { s with heap := h', toks := tk' })
    (he : ∀ v h' tk', Fr h₀ L (hid s.heap own) m → Flew base (env :: outer) (hid s.heap own) err errN s v { s with heap := h', toks := tk' } → E v { s with heap := h', toks := tk' }) :
    wpAny (model prog w) (mA dp un gd (env :: outer)) (call (.ref f) args) Q E s := by
  have No : News h₀ L s.heap own := fun q hq => N q (List.mem_append_left _ hq)
  obtain ⟨FG, BG, st, _⟩ := groundX (A := mA dp un gd (env :: outer)) (R := fun _ _ => True) B F No rfl hf hke
  refine wpAny_call (C dp un gd (env :: outer) base s _ BG (X.keeps st) (T.keeps st) (dicts_push F No D hf st) hd hu (fun q hq => (No q hq).1) ?_ ?_)
  · intro v s' own' r hp
    obtain ⟨F', N', hn⟩ := ret_back F N hap r
    have e := r.same
    have := h v own' s'.heap s'.toks hp F' N' hn
    rw [← e] at this; exact this
  · intro v s' r
    have e' := r.1
    have := he v s'.heap s'.toks FG (by rw [← e']; exact r)
    rw [← e'] at this; exact this
/-- a contract is used at a call that does not raise -/
theorem ctr_use (C : Ctr prog w K p loose mean mg mb d u f args own post noErr noErrN) {A₀ : Around} {base h₀ : Heap} {outer : List Env} {env : Env} {L : Addr} {m : Str → Option Value} {s : Shared} {rest : List (Addr × Obj)} {dp un : Nat} {gd : Option (List Code)}
    {Q E : Value → Shared → Prop}
    (B : Below A₀ base outer h₀) (F : Fr h₀ L s.heap m) (X : K.In h₀) (T : Top p loose mean mg mb h₀) (D : KtsDicts (fsOf outer) h₀) (N : News h₀ L s.heap (own ++ rest)) (hf : env.frame = some L) (hke : env.scope.kind = .function)
    (hd : dp + d < recursionLimit) (hu : un + u < cLine) (hap : ∀ q ∈ rest, q.1 ∉ own.map (·.1))
    (h : ∀ v own' h' tk', post v own' → Fr h₀ L h' m → News h₀ L h' (own' ++ rest) → (∀ a ∈ own', a.1 ∈ own.map (·.1) ∨ ∀ q ∈ rest, a.1 ≠ q.1) → Q v { s with heap := h', toks := tk' }) :
    wpAny (model prog w) (mA dp un gd (env :: outer)) (call (.ref f) args) Q E s :=
  ctr_useE C B F X T D N hf hke hd hu hap h fun _ _ _ _ x => (flew_no x).elim
end

/-- a stop of the walk -/
noncomputable def Hold (P : Prop) : Prop := P
theorem Hold.mk {P : Prop} (h : Hold P) : P := h
noncomputable abbrev noE : Value → Shared → Prop := fun _ _ => False

section
variable {prog : Program} {w : World} {A : Around} {E : Value → Shared → Prop} {s : Shared} {env : Env} {h₀ : Heap} {Q : Flow → Shared → Prop}

inductive TurnGo (h₀ : Heap) (L : Addr) (Inv : Nat → (Str → Option Value) → List (Addr × Obj) → Prop) (s : Shared) (n : Nat) (s₅ : Shared) : Prop
  | mk (n' : Nat) (m' : Str → Option Value) (news' : List (Addr × Obj)) (h' : Heap) (tk' : Nat) (hn : n' < n) (e : s₅ = { s with heap := h', toks := tk' }) (F : Fr h₀ L h' m') (N : News h₀ L h' news') (i : Inv n' m' news')
/-- the end of a turn -/
noncomputable def TurnEnd (h₀ : Heap) (L : Addr) (Inv : Nat → (Str → Option Value) → List (Addr × Obj) → Prop) (Q : Flow → Shared → Prop) (s : Shared) (n : Nat) (f : Flow) (s₅ : Shared) : Prop := match f with
  | .next | .cont => TurnGo h₀ L Inv s n s₅
  | .brk => Q .next s₅
  | .ret v => Q (.ret v) s₅

inductive LoopSt (h₀ : Heap) (L : Addr) (Inv : Nat → (Str → Option Value) → List (Addr × Obj) → Prop) (s : Shared) (n : Nat) : Shared → Prop
  | mk (m₁ : Str → Option Value) (news₁ : List (Addr × Obj)) (h : Heap) (tk : Nat) (i : Inv n m₁ news₁) (F : Fr h₀ L h m₁) (N : News h₀ L h news₁) : LoopSt h₀ L Inv s n { s with heap := h, toks := tk }
theorem TurnGo.less {L : Addr} {Inv : Nat → (Str → Option Value) → List (Addr × Obj) → Prop} {s s₅ : Shared} {n : Nat} (h : TurnGo h₀ L Inv s n s₅) : ∃ n', n' < n ∧ LoopSt h₀ L Inv s n' s₅ := by
  obtain ⟨n', m', news', h', tk', hn, e, F, N, i⟩ := h
  exact ⟨n', hn, e ▸ .mk m' news' h' tk' i F N⟩
theorem while_inv {test : Expr} {body : List Stmt} {pos : Pos} {m₀ : Str → Option Value} {news : List (Addr × Obj)} {n₀ : Nat} (Inv : Nat → (Str → Option Value) → List (Addr × Obj) → Prop)
    (F : Fr h₀ env.locals s.heap m₀) (N : News h₀ env.locals s.heap news) (h0 : Inv n₀ m₀ news)
    (turn : ∀ n m₁ news₁ h tk, Inv n m₁ news₁ → Fr h₀ env.locals h m₁ → News h₀ env.locals h news₁ →
      wpAny (model prog w) A (isTrue test env (eval test env)) (fun b s₂ => if b then wpAny (model prog w) A (execs body env) (TurnEnd h₀ env.locals Inv Q s n) noE s₂ else Q .next s₂) noE { s with heap := h, toks := tk }) :
    wpAny (model prog w) A (exec (.While test body [] pos) env) Q E s := by
  refine wpAny_While (codeAny_whileLoop (fun n s' => LoopSt h₀ env.locals Inv s n s') ?_ n₀ (.mk m₀ news s.heap s.toks h0 F N))
  rintro n s' ⟨m₁, news₁, h, tk, hI, F₁, N₁⟩
  refine wpAny_mono (turn n m₁ news₁ h tk hI F₁ N₁) (fun b s₂ h₂ => ?_) fun _ _ x => x.elim
  cases b with
  | false => simp only [Bool.false_eq_true, if_false] at h₂ ⊢; exact wpAny_execs_nil h₂
  | true =>
    simp only [if_true] at h₂ ⊢
    refine wpAny_mono h₂ (fun f s₃ h₃ => ?_) fun _ _ x => x.elim
    cases f with
    | next => exact h₃.less
    | cont => exact h₃.less
    | brk => exact h₃
    | ret v => exact h₃

/-- the turns of a for over an iterator -/
noncomputable def ForTurn (prog : Program) (w : World) (A : Around) (h₀ : Heap) (env : Env) (tgt : Expr) (body : List Stmt) (Q : Flow → Shared → Prop) (s : Shared) (Inv : Nat → (Str → Option Value) → List (Addr × Obj) → Prop) (it : Value) : Prop :=
  ∀ n m₁ news₁ h tk, Inv n m₁ news₁ → Fr h₀ env.locals h m₁ → News h₀ env.locals h news₁ →
    wpAny (model prog w) A (pyNext it) (fun r s₃ => match r with
      | none => Q .next s₃
      | some v => wpAny (model prog w) A (assign tgt env v) (fun _ s₄ => wpAny (model prog w) A (execs body env) (TurnEnd h₀ env.locals Inv Q s n) noE s₄) noE s₃) noE { s with heap := h, toks := tk }

inductive ForStart (prog : Program) (w : World) (A : Around) (h₀ : Heap) (env : Env) (tgt : Expr) (body : List Stmt) (Q : Flow → Shared → Prop) (it : Value) (s₂ : Shared) : Prop
  | mk (Inv : Nat → (Str → Option Value) → List (Addr × Obj) → Prop) (n : Nat) (m₁ : Str → Option Value) (news₁ : List (Addr × Obj)) (i : Inv n m₁ news₁) (F : Fr h₀ env.locals s₂.heap m₁) (N : News h₀ env.locals s₂.heap news₁) (hl : ∀ v, letOwnedTupleGo tgt it v = pure ()) (turn : ForTurn prog w A h₀ env tgt body Q s₂ Inv it)
theorem for_inv {tgt : Expr} {iter : Expr} {body : List Stmt} {pos : Pos}
    (h : wpAny (model prog w) A (eval iter env) (fun xv s₁ => wpAny (model prog w) A (pyIter xv) (fun it s₂ => ForStart prog w A h₀ env tgt body Q it s₂) noE s₁) noE s)
    (hs : ∀ x, foldedSetIterable iter env x = pure x := by intro _; rfl) :
    wpAny (model prog w) A (exec (.For tgt iter body [] pos) env) Q E s := by
  have key : wpAny (model prog w) A (exec (.For tgt iter body [] pos) env) Q noE s := by
    refine wpAny_For (wpAny_mono h (fun xv s₁ h₁ => wpAny_mono h₁ (fun it s₂ h₂ => ?_) fun _ _ x => x.elim) fun _ _ x => x.elim) hs
    obtain ⟨Inv, n, m₁, news₁, hI, F₁, N₁, hlet, turn⟩ := h₂
    refine codeAny_forLoop (fun n s' => LoopSt h₀ env.locals Inv s₂ n s') ?_ n (.mk m₁ news₁ s₂.heap s₂.toks hI F₁ N₁) hlet
    rintro n s' ⟨m₁, news₁, h, tk, hI, F₁, N₁⟩
    refine wpAny_mono (turn n m₁ news₁ h tk hI F₁ N₁) (fun r s₃ h₃ => ?_) fun _ _ x => x.elim
    cases r with
    | none => exact wpAny_execs_nil h₃
    | some v =>
      refine wpAny_mono h₃ (fun _ s₄ h₄ => wpAny_mono h₄ (fun f s₅ h₅ => ?_) fun _ _ x => x.elim) fun _ _ x => x.elim
      cases f with
      | next => exact h₅.less
      | cont => exact h₅.less
      | brk => exact h₅
      | ret v => exact h₅
  exact wpAny_mono key (fun _ _ x => x) fun _ _ x => x.elim

/-- the ledger behind a change of one object, and behind new ones -/
theorem news_same {L I : Addr} {h h' : Heap} {oI : Obj} {rest : List (Addr × Obj)} (hs : Heap.ExtBut I h h') (hI : h'.get? I = some oI) (hIL : I ≠ L) (hI0 : h₀.get? I = none) (hne : ∀ q ∈ rest, q.1 ≠ I)
    (N : News h₀ L h rest) : News h₀ L h' ((I, oI) :: rest) := by
  intro q hq
  rcases List.mem_cons.mp hq with rfl | hq
  · exact ⟨hI, hIL, hI0⟩
  · exact ⟨hs q.1 q.2 (hne q hq) (N q hq).1, (N q hq).2⟩
theorem fr_same {L I : Addr} {h h' : Heap} {m : Str → Option Value} (F : Fr h₀ L h m) (hs : Heap.ExtBut I h h') (hIL : I ≠ L) (hI0 : h₀.get? I = none) : Fr h₀ L h' m := by
  obtain ⟨oL, es, ep, hL, r⟩ := F.ns
  exact ⟨⟨oL, es, ep, hs L oL (Ne.symm hIL) hL, r⟩, fun b o e => hs b o (fun q => by rw [q, hI0] at e; cases e) (F.keep b o e), F.above⟩

noncomputable def IsLI (l : Addr) (i : Nat) (o : Obj) : Prop := o.cls = .type "list_iterator" ∧ o.data = .fields #[.ref l, .int i 0]
noncomputable def IsSI (x : Str) (t : Tok) (i : Nat) (o : Obj) : Prop := o.cls = .type (strIterType x) ∧ o.data = .fields #[.str x t, .int i 0]

theorem next_list {I l : Addr} {oI : Obj} {i : Nat} {m : Str → Option Value} {vs : Array Value} {rest : List (Addr × Obj)} {Q : Option Value → Shared → Prop} {E : Value → Shared → Prop} (hh : A.handled = none)
    (F : Fr h₀ env.locals s.heap m) (N : News h₀ env.locals s.heap ((I, oI) :: rest)) (hI : IsLI l i oI) (hl : s.heap.IsList l vs) (hne : ∀ q ∈ rest, q.1 ≠ I)
    (item : ∀ v h' oI', vs[i]? = some v → IsLI l (i + 1) oI' → Fr h₀ env.locals h' m → News h₀ env.locals h' ((I, oI') :: rest) → Q (some v) { s with heap := h' })
    (done : ∀ h', vs[i]? = none → Fr h₀ env.locals h' m → News h₀ env.locals h' rest → Q none { s with heap := h' }) :
    wpAny (model prog w) A (pyNext (.ref I)) Q E s := by
  have z := N _ (List.mem_cons_self ..)
  have Nr : News h₀ env.locals s.heap rest := fun q hq => N q (List.mem_cons_of_mem _ hq)
  have hit : s.heap.IsListIter I l i := ⟨oI, z.1, hI⟩
  cases hv : vs[i]? with
  | some v =>
    refine wpAny_pyNext_list_item hit hl hv fun h' hit' hs' => ?_
    obtain ⟨o', ho', hc'⟩ := hit'
    exact item v h' o' hv hc' (fr_same F hs'.extBut z.2.1 z.2.2) (news_same hs'.extBut ho' z.2.1 z.2.2 hne Nr)
  | none =>
    refine wpAny_pyNext_list_end hh hit hl hv fun h' hs' => ?_
    exact done h' hv (fr_same F hs' z.2.1 z.2.2) fun q hq => ⟨hs' q.1 q.2 (hne q hq) (Nr q hq).1, (Nr q hq).2⟩

theorem next_str {I : Addr} {x : Str} {t : Tok} {oI : Obj} {i : Nat} {m : Str → Option Value} {rest : List (Addr × Obj)} {Q : Option Value → Shared → Prop} {E : Value → Shared → Prop} (hh : A.handled = none)
    (F : Fr h₀ env.locals s.heap m) (N : News h₀ env.locals s.heap ((I, oI) :: rest)) (hI : IsSI x t i oI) (hne : ∀ q ∈ rest, q.1 ≠ I)
    (item : ∀ c u h' tk' oI', x.cps[i]? = some c → IsSI x t (i + 1) oI' → Fr h₀ env.locals h' m → News h₀ env.locals h' ((I, oI') :: rest) → Q (some (.str ⟨#[c]⟩ u)) { s with heap := h', toks := tk' })
    (done : ∀ h' tk', x.cps[i]? = none → Fr h₀ env.locals h' m → News h₀ env.locals h' rest → Q none { s with heap := h', toks := tk' }) :
    wpAny (model prog w) A (pyNext (.ref I)) Q E s := by
  have z := N _ (List.mem_cons_self ..)
  have Nr : News h₀ env.locals s.heap rest := fun q hq => N q (List.mem_cons_of_mem _ hq)
  have goItem : ∀ h' tk' c u, x.cps[i]? = some c → h'.IsStrIter I (strIterType x) x t (i + 1) → Heap.SameBut I s.heap h' → Q (some (.str ⟨#[c]⟩ u)) { s with heap := h', toks := tk' } := by
    rintro h' tk' c u hc ⟨o', ho', hc', hd'⟩ hs'
    exact item c u h' tk' o' hc ⟨hc', hd'⟩ (fr_same F hs'.extBut z.2.1 z.2.2) (news_same hs'.extBut ho' z.2.1 z.2.2 hne Nr)
  have goDone : ∀ h' tk', x.cps[i]? = none → Heap.ExtBut I s.heap h' → Q none { s with heap := h', toks := tk' } := fun h' tk' hc hs' =>
    done h' tk' hc (fr_same F hs' z.2.1 z.2.2) fun q hq => ⟨hs' q.1 q.2 (hne q hq) (Nr q hq).1, (Nr q hq).2⟩
  have hit : s.heap.IsStrIter I (strIterType x) x t i := ⟨oI, z.1, hI.1, hI.2⟩
  cases ha : x.cps.all (· < 128) with
  | false =>
    have e : strIterType x = "str_iterator" := by simp [strIterType, ha]
    rw [e] at hit goItem
    cases hv : x.cps[i]? with
    | some c => exact wpAny_pyNext_wide_item hit hv fun h' hit' hs' => goItem h' _ c _ hv hit' hs'
    | none => exact wpAny_pyNext_wide_end hh hit hv fun h' he' => goDone h' _ hv he'
  | true =>
    have e : strIterType x = "str_ascii_iterator" := by simp [strIterType, ha]
    rw [e] at hit goItem
    cases hv : x.cps[i]? with
    | some c => exact wpAny_pyNext_ascii_item hit hv fun h' hit' hs' => goItem h' _ c _ hv hit' hs'
    | none => exact wpAny_pyNext_ascii_end hh hit hv fun h' he' => goDone h' _ hv he'

theorem iter_list {l : Addr} {vs : Array Value} {m : Str → Option Value} {news : List (Addr × Obj)} {L : Addr} {Q : Value → Shared → Prop} {E : Value → Shared → Prop}
    (F : Fr h₀ L s.heap m) (N : News h₀ L s.heap news) (hl : s.heap.IsList l vs)
    (h : ∀ I oI h', IsLI l 0 oI → Fr h₀ L h' m → News h₀ L h' ((I, oI) :: news) → (∀ q ∈ news, q.1 < I) → h'.IsList l vs → Q (.ref I) { s with heap := h' }) : wpAny (model prog w) A (pyIter (.ref l)) Q E s :=
  wpAny_pyIter_list hl (h _ _ _ ⟨rfl, rfl⟩ (F.push _) (N.push F _) (fun q hq => Heap.lt_size (N q hq).1) (hl.push _))
theorem iter_str {x : Str} {t : Tok} {m : Str → Option Value} {news : List (Addr × Obj)} {L : Addr} {Q : Value → Shared → Prop} {E : Value → Shared → Prop}
    (F : Fr h₀ L s.heap m) (N : News h₀ L s.heap news)
    (h : ∀ I oI h', IsSI x t 0 oI → Fr h₀ L h' m → News h₀ L h' ((I, oI) :: news) → (∀ q ∈ news, q.1 < I) → Q (.ref I) { s with heap := h' }) : wpAny (model prog w) A (pyIter (.str x t)) Q E s :=
  wpAny_pyIter_strU (h _ _ _ ⟨rfl, rfl⟩ (F.push _) (N.push F _) (fun q hq => Heap.lt_size (N q hq).1))
end
-- part pl0
theorem fm_range (l : List Nat) : ∀ (n i : Nat), ((List.range n).map (i + ·)).filterMap (fun k => l.toArray[k]?) = (l.drop i).take n
  | 0, i => by simp
  | n + 1, i => by
    rw [List.range_succ, List.map_append, List.filterMap_append, fm_range l n i, List.take_add_one]
    congr 1
    simp only [List.map_cons, List.map_nil, List.filterMap_cons, List.filterMap_nil, List.getElem?_toArray, List.getElem?_drop]
    cases l[i + n]? <;> rfl
theorem sr_len (a b : Nat) : (if (1 : Int) > 0 then (if (a : Int) < b then ((b : Int) - a + 1 - 1) / 1 else 0) else (if (a : Int) > b then ((a : Int) - b - 1 - 1) / (-1) else 0)).toNat = b - a := by
  rw [if_pos (by decide), Int.ediv_one, Int.add_sub_cancel]
  split
  · exact Int.toNat_sub b a
  · rename_i h
    rw [Nat.sub_eq_zero_of_le (Int.ofNat_le.mp (Int.not_lt.mp h))]; rfl
theorem sr_one (a b : Nat) : sliceRange (a : Int) (b : Int) 1 = (List.range (b - a)).map (a + ·) := by
  unfold sliceRange
  show List.map (fun k => _) (List.range (Int.toNat _)) = _
  rw [sr_len]
  exact List.map_congr_left fun k _ => by show ((a : Int) + 1 * (k : Int)).toNat = a + k; rw [Int.one_mul]; exact Int.toNat_natCast (a + k)
theorem slice_gen (x : Str) (l u : Option Int) (a b : Nat) (h : strSliceIndices l u 1 x.length = sliceRange (a : Int) (b : Int) 1) (hb : b ≤ x.length) : (Txt.slice x l u).cps.toList = (x.cps.toList.drop a).take (b - a) := by
  unfold Txt.slice
  rw [h, sr_one]
  have hx : x.length = x.cps.toList.length := by simp [Str.length]
  split
  · rename_i hc
    simp only [List.length_map, List.length_range, Bool.and_eq_true, beq_iff_eq] at hc
    have hc2 := hc.2
    by_cases h0 : x.length = 0
    · have : x.cps.toList = [] := List.eq_nil_of_length_eq_zero (hx ▸ h0)
      rw [this, List.drop_nil, List.take_nil]
    · obtain rfl : a = 0 := by omega
      obtain rfl : b = x.length := by omega
      rw [List.drop_zero, Nat.sub_zero, hx, List.take_length]
  · have := fm_range x.cps.toList (b - a) a
    simpa using this
theorem cut_min {α : Type _} (l : List α) (i j : Nat) : (l.drop (min i l.length)).take (min j l.length - min i l.length) = (l.drop i).take (j - i) := by
  rw [← List.drop_take, ← List.drop_take, ← List.take_eq_take_min]
  rcases Nat.le_total i l.length with h | h
  · rw [Nat.min_eq_left h]
  · have hl : (l.take j).length ≤ l.length := by rw [List.length_take]; exact Nat.min_le_right ..
    rw [Nat.min_eq_right h, List.drop_eq_nil_of_le hl, List.drop_eq_nil_of_le (Nat.le_trans hl h)]
theorem len_cps (x : Str) : x.length = x.cps.toList.length := (Array.length_toList ..).symm
theorem slice_ss (x : Str) (i j : Nat) : (Txt.slice x (some (i : Int)) (some (j : Int))).cps.toList = (x.cps.toList.drop i).take (j - i) := by
  rw [slice_gen x _ _ (min i x.length) (min j x.length) (by
    unfold strSliceIndices
    simp only [show (1 : Int) > 0 by decide, if_true]
    congr 1
    · rw [if_neg (Int.not_lt.mpr (Int.natCast_nonneg i))]; first | exact (Int.natCast_min ..).symm | exact (Int.natCast_min ..) | omega
    · rw [if_neg (Int.not_lt.mpr (Int.natCast_nonneg j))]; first | exact (Int.natCast_min ..).symm | exact (Int.natCast_min ..) | omega) (Nat.min_le_right ..), len_cps, cut_min]
theorem slice_ns (x : Str) (j : Nat) : (Txt.slice x none (some (j : Int))).cps.toList = x.cps.toList.take j := by
  rw [slice_gen x _ _ 0 (min j x.length) (by
    unfold strSliceIndices
    simp only [show (1 : Int) > 0 by decide, if_true]
    congr 1
    rw [if_neg (Int.not_lt.mpr (Int.natCast_nonneg j))]; first | exact (Int.natCast_min ..).symm | exact (Int.natCast_min ..) | omega) (Nat.min_le_right ..), len_cps, List.drop_zero, Nat.sub_zero, ← List.take_eq_take_min]
theorem slice_sn (x : Str) (i : Nat) : (Txt.slice x (some (i : Int)) none).cps.toList = x.cps.toList.drop i := by
  rw [slice_gen x _ _ (min i x.length) x.length (by
    unfold strSliceIndices
    simp only [show (1 : Int) > 0 by decide, if_true]
    congr 1
    rw [if_neg (Int.not_lt.mpr (Int.natCast_nonneg i))]; first | exact (Int.natCast_min ..).symm | exact (Int.natCast_min ..) | omega) (Nat.le_refl _), len_cps]
  have := cut_min x.cps.toList i x.cps.toList.length
  rw [Nat.min_self] at this
  rw [this, List.take_of_length_le (by rw [List.length_drop]; exact Nat.le_refl _)]
theorem str_ext {x y : Str} (h : x.cps.toList = y.cps.toList) : x = y := by
  obtain ⟨a⟩ := x; obtain ⟨b⟩ := y
  congr 1
  exact Array.toList_inj.mp h
theorem str_beq {x y : Str} {l : List Nat} (hx : x.cps.toList = l) {m : List Nat} (hy : y.cps.toList = m) : (x == y) = decide (l = m) := by
  rw [Bool.eq_iff_iff]
  simp only [beq_iff_eq, decide_eq_true_eq]
  constructor
  · intro h; rw [← hx, ← hy, h]
  · intro h; exact str_ext (by rw [hx, hy, h])
theorem str_bne {x y : Str} {l m : List Nat} (hx : x.cps.toList = l) (hy : y.cps.toList = m) : (x != y) = !decide (l = m) := by
  show (!(x == y)) = _
  rw [str_beq hx hy]
theorem item_at {x : Str} {i : Nat} {c : Nat} (h : x.cps[i]? = some c) : Txt.item x (i : Int) = ⟨#[c]⟩ := by
  obtain ⟨hlt, e⟩ := Array.getElem?_eq_some_iff.mp h
  unfold Txt.item Txt.charAt seqIndex?
  have hl : (i : Int) < (x.length : Int) := by have : i < x.length := hlt; omega
  simp [show ¬ ((i : Int) < 0) by omega, hl, h]
-- part pl1
noncomputable def strOf (l : List Nat) : Str := ⟨l.toArray⟩
theorem drop_at' {x : Str} {i c : Nat} (h : x.cps[i]? = some c) : x.cps.toList.drop i = c :: x.cps.toList.drop (i + 1) := by
  have h' : x.cps.toList[i]? = some c := by simpa using h
  obtain ⟨hlt, e⟩ := List.getElem?_eq_some_iff.mp h'
  rw [← e]; exact List.drop_eq_getElem_cons hlt
theorem has_at {x : Str} {i : Nat} (h : i < x.length) : ∃ c, x.cps[i]? = some c := ⟨x.cps[i]'h, Array.getElem?_eq_getElem h⟩
theorem drop_end {x : Str} {i : Nat} (h : x.length ≤ i) : x.cps.toList.drop i = [] := List.drop_eq_nil_of_le (by simpa [Str.length] using h)
theorem one_beq {c d : Nat} {y : Str} {b : Bool} (hy : y = ⟨#[d]⟩) (h : ((⟨#[c]⟩ : Str) == y) = b) : decide (c = d) = b := by
  subst hy
  rw [← h, Bool.eq_iff_iff]
  simp
theorem one_bne {c d : Nat} {y : Str} {b : Bool} (hy : y = ⟨#[d]⟩) (h : ((⟨#[c]⟩ : Str) != y) = b) : decide (c ≠ d) = b := by
  subst hy
  rw [← h, Bool.eq_iff_iff]
  simp
theorem item1 {x : Str} {i c : Nat} (h : x.cps[i + 1]? = some c) : Txt.item x ((i : Int) + 1) = ⟨#[c]⟩ := item_at h
theorem ex_str {x y : Str} {t : Tok} (h : x = y) : ∃ t', Value.str x t = Value.str y t' := ⟨t, by rw [h]⟩
-- part pl1b
noncomputable def tillClose : List Nat → List Nat → List Nat
  | _, [] => []
  | acc, c :: r => if c = 41 then acc else tillClose (acc ++ [c]) r
noncomputable def insideL : List Nat → List Nat
  | [] => []
  | c :: r => if c = 40 then tillClose [] r else insideL r
noncomputable def insFrom (op : Bool) (ins rest : List Nat) : List Nat := if op then tillClose ins rest else insideL rest
theorem at_lt {x : Str} {i c : Nat} (h : x.cps[i]? = some c) : i < x.length := by
  obtain ⟨hlt, _⟩ := Array.getElem?_eq_some_iff.mp h
  exact hlt
theorem at_none {x : Str} {i : Nat} (h : x.cps[i]? = none) : x.cps.toList.drop i = [] := drop_end (Array.getElem?_eq_none_iff.mp h)
-- part pl2
theorem getD_at {x : Str} {i c : Nat} (h : i < x.length) (e : x.cps.getD i 0 = c) : x.cps[i]? = some c := by
  have h' : i < x.cps.size := h
  rw [Array.getD_eq_getD_getElem?, Array.getElem?_eq_getElem h', Option.getD_some] at e
  rw [Array.getElem?_eq_getElem h', e]
/-- the first place of a sign from a place on -/
theorem find3_cases (x y : Str) (c i : Nat) (hy : y = ⟨#[c]⟩) (hi : i ≤ x.length) :
    (Txt.find3 x y (i : Int) = -1 ∧ c ∉ x.cps.toList.drop i) ∨
    ∃ k : Nat, Txt.find3 x y (i : Int) = (k : Int) ∧ i ≤ k ∧ k < x.length ∧ x.cps[k]? = some c ∧ c ∉ (x.cps.toList.drop i).take (k - i) := by
  subst hy
  have hfi : fromIndex x.length (i : Int) = i := by unfold fromIndex; rw [if_neg (Int.not_lt.mpr (Int.natCast_nonneg i))]; first | exact Int.toNat_natCast i | omega
  have hmem : ∀ (n : Nat), (∀ v, i ≤ v → v < i + n → v < x.length → x.cps.getD v 0 ≠ c) → c ∉ (x.cps.toList.drop i).take n := by
    intro n hn hm
    obtain ⟨j, hj, e⟩ := List.mem_iff_getElem.mp hm
    simp only [List.length_take, List.length_drop, Array.length_toList] at hj
    have hj := Nat.lt_min.mp hj
    have hlt : i + j < x.length := Nat.add_lt_of_lt_sub' hj.2
    refine hn (i + j) (Nat.le_add_right ..) (Nat.add_lt_add_left hj.1 i) hlt ?_
    rw [List.getElem_take, List.getElem_drop] at e
    rw [Array.getD_eq_getD_getElem?, Array.getElem?_eq_getElem hlt, Option.getD_some, ← e]; rfl
  rcases StrLaws.find3_spec x c i with ⟨h, hn⟩ | ⟨k, h, hlo, hk, hat, hn⟩
  · rw [hfi] at hn
    refine .inl ⟨h, ?_⟩
    have := hmem (x.length - i) fun v h1 h2 h3 => hn v h1 h3
    rwa [List.take_of_length_le (by rw [List.length_drop]; exact Nat.le_refl _)] at this
  · rw [hfi] at hlo hn
    exact .inr ⟨k, h, hlo, hk, getD_at hk hat, hmem (k - i) fun v h1 h2 _ => hn v h1 (Nat.add_sub_cancel' hlo ▸ h2)⟩
theorem find_cases (x y : Str) (c : Nat) (hy : y = ⟨#[c]⟩) :
    (Txt.find x y = -1 ∧ c ∉ x.cps.toList) ∨ ∃ k : Nat, Txt.find x y = (k : Int) ∧ k < x.length ∧ x.cps[k]? = some c ∧ c ∉ x.cps.toList.take k := by
  rw [find_is_find3]
  rcases find3_cases x y c 0 hy (Nat.zero_le _) with ⟨h, hn⟩ | ⟨k, h, _, hk, hat, hn⟩
  · exact .inl ⟨h, by simpa using hn⟩
  · exact .inr ⟨k, h, hk, hat, by simpa using hn⟩
theorem tillClose_none : ∀ (l acc : List Nat), 41 ∉ l → tillClose acc l = []
  | [], _, _ => rfl
  | c :: r, acc, h => by
    have hc : c ≠ 41 := fun e => h (e ▸ List.mem_cons_self ..)
    rw [tillClose, if_neg hc]
    exact tillClose_none r _ fun q => h (List.mem_cons_of_mem _ q)
theorem tillClose_some : ∀ (l acc r : List Nat), 41 ∉ l → tillClose acc (l ++ 41 :: r) = acc ++ l
  | [], acc, r, _ => by simp [tillClose]
  | c :: l, acc, r, h => by
    have hc : c ≠ 41 := fun e => h (e ▸ List.mem_cons_self ..)
    rw [List.cons_append, tillClose, if_neg hc, tillClose_some l _ r fun q => h (List.mem_cons_of_mem _ q)]
    simp
theorem insideL_none : ∀ (l : List Nat), 40 ∉ l → insideL l = []
  | [], _ => rfl
  | c :: r, h => by
    have hc : c ≠ 40 := fun e => h (e ▸ List.mem_cons_self ..)
    rw [insideL, if_neg hc]
    exact insideL_none r fun q => h (List.mem_cons_of_mem _ q)
theorem insideL_at : ∀ (l r : List Nat), 40 ∉ l → insideL (l ++ 40 :: r) = tillClose [] r
  | [], r, _ => by simp [insideL]
  | c :: l, r, h => by
    have hc : c ≠ 40 := fun e => h (e ▸ List.mem_cons_self ..)
    rw [List.cons_append, insideL, if_neg hc, insideL_at l r fun q => h (List.mem_cons_of_mem _ q)]
theorem split_at {x : Str} {k c : Nat} (h : x.cps[k]? = some c) : x.cps.toList = x.cps.toList.take k ++ c :: x.cps.toList.drop (k + 1) := by
  rw [← drop_at' h, List.take_append_drop]
theorem inside_open {x : Str} {f : Nat} (h : x.cps[f]? = some 40) (hn : 40 ∉ x.cps.toList.take f) : insideL x.cps.toList = tillClose [] (x.cps.toList.drop (f + 1)) := by
  rw [split_at h, insideL_at _ _ hn]
  congr 1
  have e := split_at h
  have := drop_at' h
  conv => rhs; rw [← e]
theorem inside_both {x : Str} {f r : Nat} (h : x.cps[f]? = some 40) (hn : 40 ∉ x.cps.toList.take f) (h2 : x.cps[r]? = some 41) (hfr : f + 1 ≤ r) (hn2 : 41 ∉ (x.cps.toList.drop (f + 1)).take (r - (f + 1))) :
    insideL x.cps.toList = (x.cps.toList.drop (f + 1)).take (r - (f + 1)) := by
  rw [inside_open h hn]
  have e : x.cps.toList.drop (f + 1) = (x.cps.toList.drop (f + 1)).take (r - (f + 1)) ++ 41 :: x.cps.toList.drop (r + 1) := by
    rw [← drop_at' h2]
    conv => lhs; rw [← List.take_append_drop (r - (f + 1)) (x.cps.toList.drop (f + 1))]
    rw [List.drop_drop, Nat.add_sub_cancel' hfr]
  conv => lhs; rw [e]
  rw [tillClose_some _ _ _ hn2]
  simp
-- part pl3
noncomputable def splitL (c : Nat) : List Nat → List (List Nat)
  | [] => [[]]
  | a :: r => if a = c then [] :: splitL c r else match splitL c r with
    | h :: t => (a :: h) :: t
    | [] => [[a]]
theorem splitL_ne (c : Nat) : ∀ l, splitL c l ≠ []
  | [] => by simp [splitL]
  | a :: r => by
    rw [splitL]
    split
    · simp
    · cases h : splitL c r with
      | nil => simp
      | cons x y => simp
theorem splitL_free (c : Nat) : ∀ l : List Nat, c ∉ l → splitL c l = [l]
  | [], _ => rfl
  | a :: r, h => by
    have ha : a ≠ c := fun e => h (by rw [e]; exact List.mem_cons_self ..)
    rw [splitL, if_neg ha, splitL_free c r (fun m => h (List.mem_cons_of_mem _ m))]
theorem splitL_at (c : Nat) : ∀ (p r : List Nat), c ∉ p → splitL c (p ++ c :: r) = p :: splitL c r
  | [], r, _ => by simp [splitL]
  | a :: p, r, h => by
    have ha : a ≠ c := fun e => h (by rw [e]; exact List.mem_cons_self ..)
    rw [List.cons_append, splitL, if_neg ha, splitL_at c p r (fun m => h (List.mem_cons_of_mem _ m))]
theorem splitL_join (c : Nat) : ∀ l : List Str, l ≠ [] → (∀ p ∈ l, c ∉ p.cps.toList) → splitL c (Str.join ⟨#[c]⟩ l).cps.toList = l.map (·.cps.toList)
  | [], h, _ => absurd rfl h
  | [x], _, h => by
    rw [show Str.join ⟨#[c]⟩ [x] = x from rfl, splitL_free c _ (h x (List.mem_cons_self ..))]; rfl
  | x :: y :: r, _, h => by
    rw [PyProof.Rows.join_cons_cons, Str.cps_append, Str.cps_append, Array.toList_append, Array.toList_append, List.append_assoc]
    show splitL c (_ ++ c :: _) = _
    rw [splitL_at c _ _ (h x (List.mem_cons_self ..)), show ([] : List Nat).append (Str.join ⟨#[c]⟩ (y :: r)).cps.toList = (Str.join ⟨#[c]⟩ (y :: r)).cps.toList from rfl, splitL_join c (y :: r) (by simp) (fun p hp => h p (List.mem_cons_of_mem _ hp))]
    rfl
theorem split_eq (x : Str) (c : Nat) : (Txt.split x ⟨#[c]⟩).map (·.cps.toList) = splitL c x.cps.toList := by
  have hne : Txt.split x ⟨#[c]⟩ ≠ [] := fun e => by
    have := split_len x c
    rw [e] at this
    have h2 : ∀ l : List Nat, 0 ≤ cnt c l := fun l => by
      induction l with
      | nil => exact Int.le_refl _
      | cons a r ih =>
        rw [cnt_cons]
        split <;> omega
    have := h2 x.cps.toList
    simp only [List.length_nil] at *
    omega
  have h := splitL_join c (Txt.split x ⟨#[c]⟩) hne (StrLaws.split_free x c)
  rw [StrLaws.join_split] at h
  exact h.symm
noncomputable def port229 (ins : List Nat) : Option (List Nat) := match ins with
  | [] => none
  | c :: r => if (c :: r).getLast? = some c ∧ (splitL c (c :: r)).length = 5 then (splitL c (c :: r))[3]? else none
theorem port_empty {ins : List Nat} (h : ins = []) : port229 ins = none := by rw [h]; rfl
/-- the walk's two signs and what they say of the text between -/
theorem port_ends {x : Str} {f r c d : Nat} (hf : x.cps[f]? = some 40) (hr : x.cps[r]? = some 41) (hfr : f + 1 ≤ r) (hc : x.cps[f + 1]? = some c) (hd : x.cps[r - 1]? = some d) :
    (c ≠ d → port229 ((x.cps.toList.drop (f + 1)).take (r - (f + 1))) = none) ∧
    (c = d → ∃ rest, (x.cps.toList.drop (f + 1)).take (r - (f + 1)) = c :: rest ∧ (c :: rest).getLast? = some c) := by
  have hlr : r < x.cps.toList.length := len_cps x ▸ at_lt hr
  by_cases e : r = f + 1
  · subst e
    have h1 : c = 41 := by rw [hr] at hc; exact (Option.some.inj hc).symm
    have h2 : d = 40 := by rw [Nat.add_sub_cancel, hf] at hd; exact (Option.some.inj hd).symm
    refine ⟨fun _ => by rw [Nat.sub_self, List.take_zero]; rfl, fun h => ?_⟩
    rw [h1, h2] at h; cases h
  · obtain ⟨k, rfl⟩ := Nat.exists_eq_add_of_lt (Nat.lt_of_le_of_ne hfr (Ne.symm e))
    have hk : f + 1 + k + 1 - (f + 1) = k + 1 := by rw [Nat.add_assoc (f + 1)]; exact Nat.add_sub_cancel_left ..
    have hl : ((x.cps.toList.drop (f + 1)).take (k + 1)).getLast? = some d := by
      have hlen : ((x.cps.toList.drop (f + 1)).take (k + 1)).length = k + 1 := by
        rw [List.length_take, List.length_drop, Nat.min_eq_left]
        exact Nat.le_sub_of_add_le (by rw [Nat.add_comm]; exact Nat.le_of_lt hlr)
      rw [List.getLast?_eq_getElem?, hlen, Nat.add_sub_cancel, List.getElem?_take, if_pos (Nat.lt_succ_self k), List.getElem?_drop, ← hd, Nat.add_sub_cancel, Array.getElem?_toList]
    rw [hk]
    rw [drop_at' hc, List.take_succ_cons] at hl ⊢
    refine ⟨fun h => ?_, fun h => ⟨_, rfl, by rw [hl, h]⟩⟩
    show (if _ ∧ _ then _ else none) = none
    rw [if_neg]
    rintro ⟨h1, _⟩
    rw [hl] at h1
    exact h (Option.some.inj h1).symm
theorem port_parts {X : Str} {c : Nat} {rest : List Nat} (hX : X.cps.toList = c :: rest) (hl : (c :: rest).getLast? = some c) :
    ((Txt.split X ⟨#[c]⟩).length ≠ 5 → port229 (c :: rest) = none) ∧ (∀ y, (Txt.split X ⟨#[c]⟩).length = 5 → (Txt.split X ⟨#[c]⟩)[3]? = some y → port229 (c :: rest) = some y.cps.toList) := by
  have e := split_eq X c
  rw [hX] at e
  have hn := congrArg List.length e
  rw [List.length_map] at hn
  refine ⟨fun h => ?_, fun y h hy => ?_⟩
  · show (if _ ∧ _ then _ else none) = none
    rw [if_neg]
    rintro ⟨_, h1⟩
    exact h (hn.trans h1)
  · show (if _ ∧ _ then _ else none) = _
    rw [if_pos ⟨hl, hn.symm.trans h⟩, ← e, List.getElem?_map, hy]; rfl
theorem splitL_mem (c : Nat) : ∀ (l p : List Nat), p ∈ splitL c l → ∀ a ∈ p, a ∈ l
  | [], p, h, a, ha => by
    rw [splitL, List.mem_singleton] at h
    rw [h] at ha; cases ha
  | b :: r, p, h, a, ha => by
    rw [splitL] at h
    split at h
    · rcases List.mem_cons.mp h with rfl | h
      · cases ha
      · exact List.mem_cons_of_mem _ (splitL_mem c r p h a ha)
    · cases hs : splitL c r with
      | nil => exact absurd hs (splitL_ne c r)
      | cons x y =>
        rw [hs] at h
        rcases List.mem_cons.mp h with rfl | h
        · rcases List.mem_cons.mp ha with rfl | ha
          · exact List.mem_cons_self ..
          · exact List.mem_cons_of_mem _ (splitL_mem c r x (by rw [hs]; exact List.mem_cons_self ..) a ha)
        · exact List.mem_cons_of_mem _ (splitL_mem c r p (by rw [hs]; exact List.mem_cons_of_mem _ h) a ha)
theorem tillClose_mem : ∀ (l acc : List Nat) (a : Nat), a ∈ tillClose acc l → a ∈ acc ∨ a ∈ l
  | [], acc, a, h => by cases h
  | c :: r, acc, a, h => by
    rw [tillClose] at h
    split at h
    · exact .inl h
    · rcases tillClose_mem r _ a h with h | h
      · rcases List.mem_append.mp h with h | h
        · exact .inl h
        · rw [List.mem_singleton] at h; exact .inr (h ▸ List.mem_cons_self ..)
      · exact .inr (List.mem_cons_of_mem _ h)
theorem insideL_mem : ∀ (l : List Nat) (a : Nat), a ∈ insideL l → a ∈ l
  | [], a, h => by cases h
  | c :: r, a, h => by
    rw [insideL] at h
    split at h
    · rcases tillClose_mem r [] a h with h | h
      · cases h
      · exact List.mem_cons_of_mem _ h
    · exact List.mem_cons_of_mem _ (insideL_mem r a h)
theorem port_mem {ins y : List Nat} (h : port229 ins = some y) : ∀ a ∈ y, a ∈ ins := by
  cases ins with
  | nil => cases h
  | cons c r =>
    replace h : (if _ ∧ _ then _ else none) = some y := h
    split at h
    · exact splitL_mem c _ y (List.mem_of_getElem? h)
    · cases h
theorem strOf_toList (x : Str) : strOf x.cps.toList = x := by
  apply str_ext; simp [strOf]
-- part pl4
/-! what get_token reads, over signs -/
noncomputable def isWs (c : Nat) : Bool := c == 10 || c == 9 || c == 13 || c == 32
noncomputable def quoted : List Nat → List Nat → List Nat × List Nat
  | acc, [] => (acc, [])
  | acc, c :: r => if c = 34 then (acc, r) else if c = 92 then (match r with | [] => (acc, []) | d :: r' => quoted (acc ++ [d]) r') else quoted (acc ++ [c]) r
noncomputable def bare : List Nat → List Nat → List Nat × List Nat
  | acc, [] => (acc, [])
  | acc, c :: r => if isWs c then (acc, r) else if c = 92 then (match r with | [] => (acc, []) | d :: r' => bare (acc ++ [d]) r') else bare (acc ++ [c]) r
noncomputable def token : List Nat → List Nat × List Nat
  | [] => ([], [])
  | c :: r => if isWs c then token r else if c = 34 then quoted [] r else if c = 92 then (match r with | [] => ([], []) | d :: r' => bare [d] r') else bare [c] r
noncomputable def nls (l : List Nat) : Int := (l.count 10 : Nat)
theorem ws_of {c : Nat} {b : Bool} (h : (Builtin.Str.occurrences (Str.ofString "\n\t\r ") ⟨#[c]⟩ 0 (Str.ofString "\n\t\r ").length 1).isEmpty = b) : isWs c = !b := by
  have e := StrLaws.found_one (Str.ofString "\n\t\r ") c
  rw [h] at e
  rw [e]
  have l : (Str.ofString "\n\t\r ").cps.toList = [10, 9, 13, 32] := by decide +kernel
  rw [l, isWs, Bool.eq_iff_iff]
  simp only [Bool.or_eq_true, beq_iff_eq, decide_eq_true_eq, List.mem_cons, List.not_mem_nil, or_false, or_assoc]
theorem token_ws {c : Nat} {r : List Nat} (h : isWs c = true) : token (c :: r) = token r := by rw [token.eq_def]; simp only [h, if_true]
theorem nls_snoc (l : List Nat) (c : Nat) : nls (l ++ [c]) = if c = 10 then nls l + 1 else nls l := by
  unfold nls
  by_cases h : c = 10
  · simp [h, List.count_append]
  · simp [h, List.count_append, List.count_singleton]
theorem token_bare {c : Nat} {r : List Nat} (h : isWs c = false) (h1 : c ≠ 34) (h2 : c ≠ 92) : token (c :: r) = bare (Str.ofString "" ++ ⟨#[c]⟩ : Str).cps.toList r := by
  rw [token.eq_def]; simp only [h, h1, h2, if_false, Bool.false_eq_true]
  rw [Str.cps_append]; simp [show (Str.ofString "").cps = #[] from by decide +kernel]
theorem nls_app (a b : List Nat) : nls (a ++ b) = nls a + nls b := by unfold nls; rw [List.count_append]; exact Int.natCast_add ..
theorem bare_ws {acc : List Nat} {c : Nat} {r : List Nat} (h : isWs c = true) : bare acc (c :: r) = (acc, r) := by rw [bare.eq_def]; simp only [h, if_true]
theorem bare_sign {dn : Str} {c : Nat} {r : List Nat} (h : isWs c = false) (h2 : c ≠ 92) : bare dn.cps.toList (c :: r) = bare (dn ++ ⟨#[c]⟩ : Str).cps.toList r := by
  rw [bare.eq_def]; simp only [h, h2, if_false, Bool.false_eq_true]; rw [Str.cps_append]; simp
theorem bare_esc {α : Type _} {f : α → Nat} {dn : Str} {e r : List α} (h : e.length = 1 ∨ (e = [] ∧ r = [])) : bare dn.cps.toList (92 :: (e ++ r).map f) = bare (dn ++ strOf (e.map f)).cps.toList (r.map f) := by
  rcases h with h | ⟨rfl, rfl⟩
  · obtain ⟨a, rfl⟩ := List.length_eq_one_iff.mp h
    rw [bare.eq_def]; rw [Str.cps_append]; simp [isWs, strOf]
  · rw [bare.eq_def, bare.eq_def]; rw [Str.cps_append]; simp [isWs, strOf]
theorem token_esc {α : Type _} {f : α → Nat} {e r : List α} (h : e.length = 1 ∨ (e = [] ∧ r = [])) : token (92 :: (e ++ r).map f) = bare (Str.ofString "" ++ strOf (e.map f)).cps.toList (r.map f) := by
  have h0 : (Str.ofString "").cps = #[] := by decide +kernel
  rcases h with h | ⟨rfl, rfl⟩
  · obtain ⟨a, rfl⟩ := List.length_eq_one_iff.mp h
    rw [token.eq_def]; rw [Str.cps_append, h0]; simp [isWs, strOf]
  · rw [token.eq_def, bare.eq_def]; rw [Str.cps_append, h0]; simp [isWs, strOf]
theorem token_quote {r : List Nat} : token (34 :: r) = quoted (Str.ofString "").cps.toList r := by
  have h0 : (Str.ofString "").cps = #[] := by decide +kernel
  rw [token.eq_def, h0]; simp [isWs]
theorem quoted_end {acc : List Nat} {r : List Nat} : quoted acc (34 :: r) = (acc, r) := by rw [quoted.eq_def]; simp
theorem quoted_sign {dn : Str} {c : Nat} {r : List Nat} (h : c ≠ 34) (h2 : c ≠ 92) : quoted dn.cps.toList (c :: r) = quoted (dn ++ ⟨#[c]⟩ : Str).cps.toList r := by
  rw [quoted.eq_def]; simp only [h, h2, if_false]; rw [Str.cps_append]; simp
theorem quoted_esc {α : Type _} {f : α → Nat} {dn : Str} {e r : List α} (h : e.length = 1 ∨ (e = [] ∧ r = [])) : quoted dn.cps.toList (92 :: (e ++ r).map f) = quoted (dn ++ strOf (e.map f)).cps.toList (r.map f) := by
  rcases h with h | ⟨rfl, rfl⟩
  · obtain ⟨a, rfl⟩ := List.length_eq_one_iff.mp h
    rw [quoted.eq_def]; rw [Str.cps_append]; simp [strOf]
  · rw [quoted.eq_def, quoted.eq_def]; rw [Str.cps_append]; simp [strOf]
theorem bare_nil {acc : List Nat} : bare acc [] = (acc, []) := by rw [bare.eq_def]
theorem quoted_nil {acc : List Nat} : quoted acc [] = (acc, []) := by rw [quoted.eq_def]
theorem strOf_len (l : List Nat) : (strOf l).length = l.length := by simp [strOf, Str.length]
theorem quoted_end' {acc : List Nat} {c : Nat} {r : List Nat} (h : c = 34) : quoted acc (c :: r) = (acc, r) := by rw [h]; exact quoted_end
-- part pfw

/-! the logic once more, over the stacks that the claim's caller lies in -/
noncomputable def Cal (Γ : PySem.Ctx) : Prop := (Γ.code.isCaller || Γ.below.any fun x => x.1.isCaller) = true
noncomputable def CalB (Γ : PySem.Ctx) : Prop := (Γ.below.any fun x => x.1.isCaller) = true
theorem CalB.cal {Γ : PySem.Ctx} (h : CalB Γ) : Cal Γ := by unfold Cal; rw [show (Γ.below.any fun x => x.1.isCaller) = true from h, Bool.or_true]
theorem Cal.enter {Γ : PySem.Ctx} (h : Cal Γ) (c : Code) (hd : Option Value) (p : Pos) : CalB (Γ.enter c hd p) := by
  show (((Γ.code, p) :: Γ.below).any fun x => x.1.isCaller) = true
  rw [List.any_cons]; exact h

noncomputable def wpP {α : Type} (M : Model) (A : Around) (t : Sem α) (Q : α → Shared → Prop) (E : Value → Shared → Prop) (s : Shared) : Prop :=
  ∀ Γ p, Γ.In A → Cal Γ → Sem.wp M Γ t (fun a _ s' => Q a s') (fun e _ s' => E e s') p s
noncomputable def codeP (M : Model) (A : Around) (c : Code) (R : Result → Shared → Prop) (s : Shared) : Prop :=
  ∀ Γ p, Γ.code = c → Γ.Below A → CalB Γ → wpCode M Γ R p s

section
variable {α β : Type} {M : Model} {A : Around} {E : Value → Shared → Prop} {s : Shared}
theorem wpP_any {t : Sem α} {Q : α → Shared → Prop} (h : wpAny M A t Q E s) : wpP M A t Q E s := fun Γ p hΓ _ => h Γ p hΓ
theorem codeP_any {c : Code} {R : Result → Shared → Prop} (h : codeAny M A c R s) : codeP M A c R s := fun Γ p hc hΓ _ => h Γ p hc hΓ
theorem wpP_mono {t : Sem α} {Q Q' : α → Shared → Prop} {E' : Value → Shared → Prop} (h : wpP M A t Q E s)
    (hQ : ∀ a s, Q a s → Q' a s) (hE : ∀ e s, E e s → E' e s) : wpP M A t Q' E' s :=
  fun Γ p hΓ hc => Sem.wp_mono M Γ t (fun a _ s => hQ a s) (fun e _ s => hE e s) p s (h Γ p hΓ hc)
theorem wpP_bind {m : Sem α} {f : α → Sem β} {Q : β → Shared → Prop} (h : wpP M A m (fun a s' => wpP M A (f a) Q E s') E s) : wpP M A (m >>= f) Q E s := fun Γ p hΓ hc => by
  rw [Sem.wp_bind']
  exact Sem.wp_mono M Γ m (fun a p' s' h' => h' Γ p' hΓ hc) (fun _ _ _ h' => h') p s (h Γ p hΓ hc)
/-- a first part that needs no more than the plain logic -/
theorem wpP_bindA {m : Sem α} {f : α → Sem β} {Q : β → Shared → Prop} (h : wpAny M A m (fun a s' => wpP M A (f a) Q E s') E s) : wpP M A (m >>= f) Q E s := wpP_bind (wpP_any h)
theorem wpP_pure {a : α} {Q : α → Shared → Prop} (h : Q a s) : wpP M A (pure a) Q E s := fun _ _ _ _ => h
theorem wpP_holding {vs : List Value} {m : Sem α} {Q : α → Shared → Prop} (h : wpP M A m Q E s) : wpP M A (holding vs m) Q E s :=
  fun Γ p hΓ hc => by rw [Sem.wp_holding]; exact h Γ p hΓ hc
theorem wpP_keep {vs : List Value} {m : Sem α} {Q : α → Shared → Prop} (h : wpP M A m Q E s) : wpP M A (m.keep vs) Q E s :=
  fun Γ p hΓ hc => by rw [Sem.wp_keep]; exact h Γ p hΓ hc
theorem wpP_onRaise {m : Sem α} {k : Value → Sem Unit} {Q : α → Shared → Prop}
    (h : wpP M A m Q (fun e s' => wpP M A (k e) (fun _ s'' => E e s'') E s') s) : wpP M A (m.onRaise k) Q E s := fun Γ p hΓ hc => by
  rw [Sem.wp_onRaise]
  exact Sem.wp_mono M Γ m (fun _ _ _ h' => h') (fun e p' s' h' => h' Γ p' hΓ hc) p s (h Γ p hΓ hc)
theorem wpP_tryCatch {m : Sem α} {k : Value → Sem α} {Q : α → Shared → Prop} (h : wpP M A m Q (fun e s' => wpP M A (k e) Q E s') s) :
    wpP M A (tryCatch m k) Q E s := fun Γ p hΓ hc => by
  rw [Sem.wp_tryCatch']
  exact Sem.wp_mono M Γ m (fun _ _ _ h' => h') (fun e p' s' h' => h' Γ p' hΓ hc) p s (h Γ p hΓ hc)
theorem wpP_attempt {m : Sem α} {Q : Except Value α → Shared → Prop} (h : wpP M A m (fun a => Q (.ok a)) (fun e => Q (.error e)) s) :
    wpP M A m.attempt Q E s := fun Γ p hΓ hc => by rw [Sem.wp_attempt]; exact h Γ p hΓ hc
theorem wpP_run {c : Code} {h : Option Value} {Q : Flow → Shared → Prop}
    (hc : codeP M (A.mark h) c (fun r s' => match r with | .ok f => Q f s' | .error e => E e s') s) (hnb : h ≠ some byPass := by intro x; cases x) : wpP M A (run c h) Q E s :=
  fun Γ p hΓ hcal => by rw [Sem.wp_run]; exact hc _ p rfl (hΓ.enter c h p hnb) (hcal.enter c h p)
theorem wpP_runValue {c : Code} {Q : Value → Shared → Prop}
    (hc : codeP M A c (fun r s' => match r with | .ok (.ret v) => Q v s' | .ok _ => False | .error e => E e s') s) : wpP M A (runValue c) Q E s :=
  fun Γ p hΓ hcal => by rw [Sem.wp_runValue]; exact hc _ p rfl (hΓ.enter c none p (by intro x; cases x)) (hcal.enter c none p)
theorem wpP_call {f : Value} {pos : List Value} {kw : List (Str × Value)} {Q : Value → Shared → Prop}
    (hc : codeP M A (.call f ⟨pos, kw⟩) (fun r s' => match r with | .ok (.ret v) => Q v s' | .ok _ => False | .error e => E e s') s) : wpP M A (call f pos kw) Q E s := wpP_runValue hc
theorem codeP_of_tree {c : Code} {R : Result → Shared → Prop}
    (h : wpP M (A.under c) (M.den c) (fun fin s' => match fin with | .done f => R (.ok f) s' | .again c' => c'.quiet = true ∧ codeP M A c' R s')
      (fun e s' => R (.error e) s') s) : codeP M A c R s := fun Γ p hc hΓ hcal => by
  rw [wpCode_iff_wp, hc]
  refine Sem.wp_mono M Γ _ (fun fin p' s' h' => ?_) (fun _ _ _ h' => h') p s (h Γ p (hc ▸ hΓ.in) hcal.cal)
  cases fin with
  | done f => exact h'
  | again c' => exact ⟨h'.1, h'.2 (Γ.goto c') p' rfl (hΓ.goto c') hcal⟩
theorem codeP_mono {c : Code} {R R' : Result → Shared → Prop} (h : codeP M A c R s) (hR : ∀ r s, R r s → R' r s) : codeP M A c R' s :=
  fun Γ p hc hΓ hcal => wpCode_mono hR (h Γ p hc hΓ hcal)
theorem codeP_loop' {c : Code} {R : Result → Shared → Prop} (hq : c.quiet = true) (I : Nat → Shared → Prop)
    (turn : ∀ n s, I n s → wpP M (A.under c) (M.den c)
      (fun fin s' => match fin with
        | .done f => R (.ok f) s'
        | .again c' => (c' = c ∧ ∃ m, m < n ∧ I m s') ∨ (c'.quiet = true ∧ codeP M A c' R s')) (fun e s' => R (.error e) s') s)
    (n : Nat) (h : I n s) : codeP M A c R s := by
  induction n using Nat.strongRecOn generalizing s with
  | ind n ih =>
    refine codeP_of_tree (wpP_mono (turn n s h) (fun fin s' hf => ?_) fun _ _ h' => h')
    cases fin with
    | done f => exact hf
    | again c' =>
      rcases hf with ⟨rfl, m, hm, hI⟩ | hf
      · exact ⟨hq, ih m hm hI⟩
      · exact hf
/-- the stack, and that the caller lies in it -/
theorem wpP_stack {Q : List (Code × Pos) → Shared → Prop} (h : ∀ st : List (Code × Pos), (st.any fun x => x.1.isCaller) = true → Q st s) : wpP M A stack Q E s := fun Γ p _ hc => by
  show Q ((Γ.code, p) :: Γ.below) s
  exact h _ (by rw [List.any_cons]; exact hc)
end
section
variable {prog : Program} {w : World} {A : Around} {E : Value → Shared → Prop} {R : Result → Shared → Prop} {s : Shared}
theorem caller_cal : Cal (⟨.builtin "claim.caller" {}, none, none, [], none⟩ : PySem.Ctx) := by rfl
theorem wp_of_wpP_done {M : Model} {t : Sem Fin} {R : Result → Shared → Prop} {s : Shared}
    (h : wpP M callerA t (fun fin s' => ∃ f, fin = .done f ∧ R (.ok f) s') (fun e s' => R (.error e) s') s) (p : Pos) :
    Sem.wp M ⟨.builtin "claim.caller" {}, none, none, [], none⟩ t (Sem.finPost M ⟨.builtin "claim.caller" {}, none, none, [], none⟩ R) (fun e _ s' => R (.error e) s') p s := by
  refine Sem.wp_mono M _ t (fun fin p' s' h' => ?_) (fun _ _ _ h' => h') p s (h _ p caller_in caller_cal)
  obtain ⟨f, rfl, hf⟩ := h'
  exact hf
theorem thread_ends_P {t : Sem Fin} {R : Result → Shared → Prop} (hreg : s.asleep)
    (h : wpP (model prog w) callerA t (fun fin s' => ∃ f, fin = .done f ∧ (R (.ok f) s' ∧ leftWithCleanup s'.gens = false)) (fun e s' => R (.error e) s' ∧ leftWithCleanup s'.gens = false) s) :
    ∃ n r s' s'', runN (denote table) prog w n s ⟨t, .builtin "claim.caller" {}, default, []⟩ = .halted (outcomeOf r) s' ∧
      schedN (denote table) prog w n (.single s ⟨t, .builtin "claim.caller" {}, default, []⟩) = .halted (outcomeOf r) s' ∧ s'.forget = s''.forget ∧ R r s'' := by
  obtain ⟨n, r, s₁, s₂, hs, hn, hfo, hR⟩ := wp_halts_full (M := model prog w) (R := R) hreg (wp_of_wpP_done (R := fun r s' => R r s' ∧ leftWithCleanup s'.gens = false) h default)
  exact ⟨n, r, s₂, s₁, hn, hs, hfo, hR⟩
end
-- part phead

section
variable {G : Prop}
theorem ex2a2 {α β : Type} {A B : α → β → Prop} (h : ∃ a b, A a b ∧ B a b) (k : ∀ a b, A a b → B a b → G) : G := by obtain ⟨a, b, x, y⟩ := h; exact k a b x y
theorem ex4a4 {α β γ δ : Type} {A B C D : α → β → γ → δ → Prop} (h : ∃ a b c d, A a b c d ∧ B a b c d ∧ C a b c d ∧ D a b c d) (k : ∀ a b c d, A a b c d → B a b c d → C a b c d → D a b c d → G) : G := by obtain ⟨a, b, c, d, x, y, z, t⟩ := h; exact k a b c d x y z t
theorem ex1a3 {α : Type} {A B C : α → Prop} (h : ∃ a, A a ∧ B a ∧ C a) (k : ∀ a, A a → B a → C a → G) : G := by obtain ⟨a, x, y, z⟩ := h; exact k a x y z
theorem ex7a5 {α β γ δ ε ζ η : Type} {A B C D E : α → β → γ → δ → ε → ζ → η → Prop} (h : ∃ a b c d e f g, A a b c d e f g ∧ B a b c d e f g ∧ C a b c d e f g ∧ D a b c d e f g ∧ E a b c d e f g)
    (k : ∀ a b c d e f g, A a b c d e f g → B a b c d e f g → C a b c d e f g → D a b c d e f g → E a b c d e f g → G) : G := by obtain ⟨a, b, c, d, e, f, g, x, y, z, t, u⟩ := h; exact k a b c d e f g x y z t u
theorem ex11a {α β : Type} {A B : α → Prop} {C D E F H I : α → β → Prop} (h : ∃ a, A a ∧ B a ∧ ∃ b, C a b ∧ D a b ∧ E a b ∧ F a b ∧ H a b ∧ I a b) (k : ∀ a, A a → B a → ∀ b, C a b → D a b → E a b → F a b → H a b → I a b → G) : G := by
  obtain ⟨a, x, y, b, z, t, u, v, p, q⟩ := h; exact k a x y b z t u v p q
end
/-! the claim out of a run of the law in the logic above: the library's own road asks for every stack -/
theorem callFrom_P {c : ClaimW} {tree : List Value → Sem Fin} {w : World} {s : Shared} {free : Addr → Prop} {gens : Prop} {kept : Heap → Prop} (asleep : s.asleep) (noGens : s.gens = #[])
    (spec : ∀ args, c.pre args = true → WData.layableAll args = true → ∀ ord : List DictEntry → List DictEntry, (∀ l, (ord l).Perm l) →
      ∃ vs s₁, layAllW c.records (classAt s.heap) w.params ord args s = some (vs, s₁) ∧
        wpP (model c.prog w) callerA (tree vs) (fun fin s' => ∃ f, fin = .done f ∧ (c.Ends s args vs s₁ (.ok f) s' ∧ s'.os = s.os ∧ AllBare s'.gens ∧ kept s'.heap))
          (fun e s' => c.Ends s args vs s₁ (.error e) s' ∧ s'.os = s.os ∧ AllBare s'.gens ∧ kept s'.heap) s₁) :
    c.CallFrom (fun vs => ⟨tree vs, .builtin "claim.caller" {}, default, []⟩) w free gens kept s := by
  intro args hpre hlay ord hord
  refine ex2a2 (spec args hpre hlay ord hord) fun vs s₁ laid ran => ?_
  clear spec
  have rest := layAllW_rest _ _ _ laid
  have ran' := wpP_mono (Q' := fun fin s' => ∃ f, fin = .done f ∧ ((c.Ends s args vs s₁ (.ok f) s' ∧ s'.os = s.os ∧ kept s'.heap) ∧ leftWithCleanup s'.gens = false))
    (E' := fun e s' => (c.Ends s args vs s₁ (.error e) s' ∧ s'.os = s.os ∧ kept s'.heap) ∧ leftWithCleanup s'.gens = false) ran
    (fun fin s' h => h.imp fun f h => ⟨h.1, ⟨h.2.1, h.2.2.1, h.2.2.2.2⟩, leftWithCleanup_false_of_bare h.2.2.2.1⟩) (fun e s' h => ⟨⟨h.1, h.2.1, h.2.2.2⟩, leftWithCleanup_false_of_bare h.2.2.1⟩)
  refine ex4a4 (thread_ends_P (R := fun r s' => c.Ends s args vs s₁ r s' ∧ s'.os = s.os ∧ kept s'.heap) (Shared.asleep_of_life rest.2.2.2 asleep) ran') fun k r s' s'' run sched same h => ?_
  clear ran ran'
  have eqs := Shared.forget_eq same
  have life : s'.heap.life = s.heap.life := (runN_life _ _ _ run).trans rest.2.2.2
  exact ⟨vs, s₁, laid, k, _, s', sched, (h.1.congr eqs.1).imp (Exists.imp fun v h => ⟨congrArg outcomeOf h.1, h.2.1, h.2.2.1, h.2.2.2.1, fun b o y _ => h.2.2.2.2.1 b o y, h.2.2.2.2.2⟩) (Exists.imp fun e h => h.imp fun ob h => h.imp fun cls h => ⟨congrArg outcomeOf h.1, h.2.1, h.2.2.1, h.2.2.2.1, h.2.2.2.2.1, fun b o y _ => h.2.2.2.2.2 b o y⟩),
    (fun _ i x hx => by rw [noGens] at hx; simp at hx), eqs.1 ▸ h.2.2, by rw [life], Shared.rest_eq (eqs.2.2.2.1.trans h.2.1)⟩

/-- what is to be walked -/
noncomputable abbrev WalkP (q : Program) (loose : List Str) (XP : (Str → Option Value) → Heap → Prop) (YP : World → Heap → Prop) (r : RowW) (d : DefRec) (kwd : List (Str × Expr)) : Prop :=
  ∀ (w : World) (s₀ s₁ : Shared) (mg mb : Str → Option Value), Ground q loose r.records XP w s₀ mg mb s₁.heap → YP w s₁.heap → ∀ (a : Addr) (o : Obj) (pm cd doc dV kV : Value), s₁.heap.get? a = some o →
    o.data = .func { docDef d.name d.params d.body d.scope pm cd doc with defaults := dV, kwdefaults := kV } → s₁.heap.CodeRec cd d.name → Dflts mg s₁.heap d.params kwd dV kV → mg d.name = some (.ref a) → s₁.gens = #[] →
    ∀ (args : List WData) (vals : List Value) (as : List Addr), r.claim.pre args = true → WData.layableAll args = true → ReadsAllW r.records (classAt s₀.heap) s₁.heap vals args as → WellAll w.params s₁.heap vals args → (∀ a ∈ as, (a == sysModules) = false) →
      wpP (model r.prog w) callerA (PySem.call (.ref a) vals) (fun v s' => GoodWG r.claim (classAt s₀.heap) (ExcName.means s₀.heap) args s₁ (.ok (.ret v)) s')
        (fun e s' => GoodWG r.claim (classAt s₀.heap) (ExcName.means s₀.heap) args s₁ (.error e) s') s₁

theorem PySem.W.holds_open {r : OpenRow} {q : Program} {loose : List Str} {Xt : Shared → Bool} {XP : (Str → Option Value) → Heap → Prop} {α : Type} {Yf : Shared → α} {Ya : World → α} {YP : World → Heap → Prop} {d : DefRec} {kwd : List (Str × Expr)} {N : Nat}
    (left : LeftO r.prog q loose Xt Yf Ya N) (hY : ∀ w s, Yf s = Ya w → YP w s.heap) (hYk : ∀ w h h', YP w h → (∀ b o, h.get? b = some o → h'.get? b = some o) → YP w h')
    (hX : ∀ s, Xt s = true → XP (s.heap.nsMap mainGlobals) s.heap) (hXk : ∀ mg h h', XP mg h → (∀ b o, h.get? b = some o → h'.get? b = some o) → XP mg h')
    (hdef : defOf q r.name = some (d, kwd)) (hp : r.prog.theDef r.name = some (d.params, d.body, d.scope)) (hk : kwWritten? d.params.kwonlyargs d.params.kw_defaults = some kwd) (hRf : ∀ s, Xt s = true → RecFacts r.records s.heap) (hwr : (!r.writes || r.records.isEmpty) = true)
    (k1 : r.wellSaid = true) (ok : (chainsOk q && opensWell r.prog && (frees r.toRowW && r.within.isEmpty)) = true) (hb : r.prog.bare) (hw : r.toRowW.promised)
    (call : WalkP q loose XP YP r.toRowW d kwd) : r.Holds := by
  have oks := Bool.and_eq_true_iff.mp ok
  have hch := (Bool.and_eq_true_iff.mp oks.1).1
  have o1 := (Bool.and_eq_true_iff.mp oks.1).2
  have kf := Bool.and_eq_true_iff.mp oks.2
  have fp := frees_parts kf.1
  refine ⟨k1, hw, ⟨hb, o1, by show r.toRowW.makers.map _ = []; rw [fp.2.2.2.2]; rfl⟩, hw.witness, fun w => ⟨(left.behind hX hch w).1, fun s' hs' => ?_⟩⟩
  refine ex11a ((left.behind (XP := fun mg h => XP mg h ∧ RecFacts r.toRowW.records h) (fun s hs => ⟨hX s hs, hRf s hs⟩) hch w).2 s' hs') fun s₀ hf hg0 s hT hz hgens hg G00 y => ?_
  have G0 : Ground q loose [] XP w s (s.heap.nsMap mainGlobals) (s.heap.nsMap builtinsNs) s.heap := ⟨G00.T, G00.B, G00.D, G00.TE, G00.TD, G00.W, G00.X.1, G00.cls, G00.has, G00.apart, G00.once, G00.K⟩
  have RF := G00.X.2
  refine ⟨s₀, hf, hg0, s, hT, fun n hn => ?_, RF.1, RF.2.1, ?_⟩
  · obtain rfl : n = r.name := by split at hn <;> simp_all
    exact pinned_of_view hg G0 hdef hp hk
  have hgens : s.gens = #[] := Array.eq_empty_of_size_eq_zero (beq_iff_eq.mp hgens)
  have G : Ground q loose r.toRowW.records XP w s _ _ s.heap := RF.ground G0
  clear RF G00 G0 left hX hRf
  refine callFrom_P (c := r.toRowW.claim) (tree := fun vs => do match ← nsGet mainNs r.name with
      | some f => do ret (← PySem.call f vs)
      | none => unsupported "claim.caller:no-such-global") hz hgens fun args hpre hlay ord hord => ?_
  refine (Option.isSome_iff_exists.mp (layAllW_isSome (P := w.params) (ord := ord) G.has args r.toRowW.args s (pre_splitW hpre).1)).elim fun vss hlaid => ?_
  rcases vss with ⟨vs, s₁⟩
  have keeps := layAllW_keeps _ _ _ hlaid
  have hal := layAllW_rest _ _ _ hlaid
  refine ex1a3 (reads_layAllW hord _ _ _ hlaid hlay s₁.heap (fun _ _ e => e)) fun as hrd hin hold => ?_
  have L : Laid r.toRowW.records w s s₁ args vs as := ⟨⟨ord, hord, hlaid⟩, hrd, hin, hold, keeps, hal.1.trans hgens, hal.2.2.1⟩
  have G₁ := G.keeps hXk keeps
  refine ex7a5 (G₁.fn hdef) fun a o pm cd doc dV kV h1 h2 h3 h4 h5 => ?_
  have h := call w s s₁ _ _ G₁ (hYk _ _ _ (hY w s y) keeps) a o pm cd doc dV kV h2 h3 h4 h5 (defOf_name hdef ▸ h1) L.gens args vs as hpre hlay L.reads L.well (L.low G.low)
  have hi := ident_freeW fp.2.1 fp.2.2.1 fp.2.2.2.1
  have hwi : r.toRowW.claim.within = [] := List.isEmpty_iff.mp kf.2
  have fin : ∀ {r'} {s' : Shared}, GoodWG r.toRowW.claim _ _ args s₁ r' s' → _ := fun g => g.laid (c := r.toRowW.claim) fp.1 hwi hi L
  refine ⟨vs, s₁, hlaid, wpP_bindA (wpAny_nsGet G₁.T.g ?_)⟩
  rw [h1]
  exact wpP_bind (wpP_mono h (fun v s' g => wpP_pure ⟨_, rfl, (fin g).1, (fin g).2.1, (fin g).2.2, fun q => ⟨namesKept_of hT hg r.keeps keeps g.2.1.old, noTable hwr q⟩⟩) fun e s' g => ⟨(fin g).1, (fin g).2.1, (fin g).2.2, fun q => ⟨namesKept_of hT hg r.keeps keeps g.2.1.old, noTable hwr q⟩⟩)
-- part pint

theorem wpP_ite_false {α : Type} {M : Model} {A : Around} {E : Value → Shared → Prop} {s : Shared} {c : Prop} [Decidable c] {a b : Sem α} {Q : α → Shared → Prop} (hc : ¬ c) (h : wpP M A b Q E s) : wpP M A (if c then a else b) Q E s := by rw [if_neg hc]; exact h
theorem wpP_ite_true {α : Type} {M : Model} {A : Around} {E : Value → Shared → Prop} {s : Shared} {c : Prop} [Decidable c] {a b : Sem α} {Q : α → Shared → Prop} (hc : c) (h : wpP M A a Q E s) : wpP M A (if c then a else b) Q E s := by rw [if_pos hc]; exact h
theorem codeP_builtin {prog : Program} {w : World} {A : Around} {R : Result → Shared → Prop} {s : Shared} {id : String} {args : Args} {b : Builtin} (hb : entryFor table id = some b)
    (h : wpP (model prog w) (A.under (.builtin id args)) (b args)
      (fun fin s' => match fin with | .done f => R (.ok f) s' | .again c' => c'.quiet = true ∧ codeP (model prog w) A c' R s') (fun e s' => R (.error e) s') s) :
    codeP (model prog w) A (.builtin id args) R s := by
  refine codeP_of_tree ?_
  show wpP _ _ (match entryFor table id with | some b => b args | none => unsupported ((withoutEnding? id "#data").getD id)) _ _ s
  rw [hb]; exact h
theorem codeP_call_builtin {prog : Program} {w : World} {A : Around} {R : Result → Shared → Prop} {s : Shared} {id : String} {args : Args} {b : Builtin} (hq : plainId id = true) (hb : entryFor table id = some b)
    (hck : checkBuiltinCall id args = pure ())
    (h : wpP (model prog w) A.in1 (b args)
      (fun fin s' => match fin with | .done f => R (.ok f) s' | .again c' => c'.quiet = true ∧ codeP (model prog w) A c' R s') (fun e s' => R (.error e) s') s) :
    codeP (model prog w) A (.call (.builtin id) args) R s := by
  refine codeP_of_tree ?_
  show wpP _ A.in1 (do checkBuiltinCall id args; again (.builtin id args)) _ _ s
  refine wpP_bindA (wpAny_of_eq hck (wpP_pure (And.intro (plainId_quiet hq args) (codeP_builtin hb ?_))))
  rw [Around.under_plainId hq args]; exact h
theorem caller_made {own : List String} {st : List (Code × Pos)} (h : (st.any fun x => x.1.isCaller) = true) : pythonCodeMadeTheCall own (st.map (·.1)) = false := by
  obtain ⟨⟨c, p⟩, hx, hc⟩ := List.any_eq_true.mp h
  have hm : c ∈ st.map (·.1) := List.mem_map.mpr ⟨_, hx, rfl⟩
  unfold pythonCodeMadeTheCall
  refine Bool.and_eq_false_iff.mpr (.inl (Bool.and_eq_false_iff.mpr (.inl ?_)))
  refine (congrArg (!·) (List.any_eq_true.mpr ⟨c, hm, ?_⟩)).trans rfl
  exact hc
/-- a refusal that is marked in no claim's run -/
theorem mark_P {M : Model} {A : Around} {E : Value → Shared → Prop} {s : Shared} {own : List String} {e : Value} {Q : Unit → Shared → Prop} (h : Q () s) : wpP M A (markTheRefusal own e) Q E s := by
  unfold markTheRefusal
  refine wpP_bind (wpP_stack fun st hst => ?_)
  rw [caller_made hst]
  exact wpP_pure h
-- part pint2
set_option maxHeartbeats 4000000 in
theorem int_bad_text {prog : Program} {w : World} {A : Around} {E : Value → Shared → Prop} {s : Shared} {Q : Value → Shared → Prop} {x : Str} {u : Tok} (hh : A.handled = none) (hl : x.length ≤ 640) (hn : PySem.intText? x = none) (hrp : (reprText x).length ≤ sizeLine)
    (h : ∀ h' tk' e, Heap.NewExc s.heap h' e "ValueError" → E (.ref e) { s with heap := h', toks := tk' }) :
    wpP (model prog w) A ((int_private% "intFromText") (.str x u) (numTextOf x) 10) Q E s := by
  have hs : (numSeenOf x).length ≤ 640 := Nat.le_trans (seen_length x) hl
  have hk := read0 x hs
  rw [hn] at hk
  refine wpP_ite_true hs ?_
  refine wpP_bindA (wpAny_pure ?_)
  have tail : ∀ s₀ : Shared, s₀.heap = s.heap → (∃ tk, s₀ = { s with toks := tk }) → ∀ shown : Str, shown.length ≤ sizeLine → wpP (model prog w) A (do
      let x ← mkStr (Str.ofString (toString "invalid literal for int() with base " ++ toString 10 ++ toString ": ") ++ { cps := shown.cps.extract 0 200 })
      let refusal ← newExc (Value.type "ValueError") [x]
      markTheRefusal ["int.__new__"] refusal
      raiseNew refusal) Q E s₀ := by
    rintro s₀ - ⟨tk, rfl⟩ shown hsh
    refine wpP_bindA ?_
    refine wpAny_mkStr ?_ (hx := ?_)
    rotate_left
    · show (_ ++ _ : Array Nat).size ≤ _
      rw [Array.size_append]
      have h1 : (shown.cps.extract 0 200).size ≤ 200 := by rw [Array.size_extract]; omega
      have h2 : (Str.ofString (toString "invalid literal for int() with base " ++ toString 10 ++ toString ": ")).cps.size = 40 := by decide +kernel
      have h3 : sizeLine = 16777216 := by decide +kernel
      show _ + (shown.cps.extract 0 200).size ≤ _
      omega
    refine wpP_bindA (wpAny_newExc_plain plainExc_ValueError (fun h' e hm => ?_) (by show 1 ≤ sizeLine; decide +kernel))
    refine wpP_bind (mark_P ?_)
    refine wpP_any (wpAny_raiseNew_none hh ?_)
    exact h _ _ _ hm.newExc
  have jp : wpP (model prog w) A (do
          rule "int.__new__.invalid-literal"
          let b? ← (int_private% "bytesOf?") (Value.str x u)
          match b? with
            | some b => do
              let b' ← mkBytes (b.extract 0 200)
              let shown ← pyRepr b'
              let x ← mkStr (Str.ofString (toString "invalid literal for int() with base " ++ toString 10 ++ toString ": ") ++ { cps := shown.cps.extract 0 200 })
              let refusal ← newExc (Value.type "ValueError") [x]
              markTheRefusal ["int.__new__"] refusal
              raiseNew refusal
            | none => do
              let shown ← pyRepr (Value.str x u)
              let x ← mkStr (Str.ofString (toString "invalid literal for int() with base " ++ toString 10 ++ toString ": ") ++ { cps := shown.cps.extract 0 200 })
              let refusal ← newExc (Value.type "ValueError") [x]
              markTheRefusal ["int.__new__"] refusal
              raiseNew refusal) Q E s := by
    refine wpP_bindA (wpAny_rule ?_)
    refine wpP_bindA (wpAny_of_eq (a := none) rfl ?_)
    dsimp only
    refine wpP_bindA (wpAny_pyRepr_str ?_ hrp)
    exact tail { s with toks := s.toks + 1 } rfl ⟨s.toks + 1, rfl⟩ _ hrp
  have sn : List.takeWhile (fun x => x != 0) (numTextOf x) = numSeenOf x := rfl
  rw [sn]
  dsimp only
  rcases hk with ⟨n, hk, _⟩ | ⟨_, hk | ⟨i, hk, hk2⟩⟩
  · cases hk
  · rw [hk]
    refine wpP_bindA (wpAny_of_eq (a := none) rfl ?_)
    exact jp
  · rw [hk]
    exact wpP_ite_false hk2 jp
-- part pint3
set_option maxHeartbeats 4000000 in
theorem int_bad_new {prog : Program} {w : World} {A : Around} {E : Value → Shared → Prop} {s : Shared} {Q : Fin → Shared → Prop} {x : Str} {u : Tok} (hh : A.handled = none) (hl : x.length ≤ 640) (hn : PySem.intText? x = none) (hrp : (reprText x).length ≤ sizeLine)
    (h : ∀ h' tk' e, Heap.NewExc s.heap h' e "ValueError" → E (.ref e) { s with heap := h', toks := tk' }) :
    wpP (model prog w) A (Builtin.«int.__new__» ⟨[.type "int", .str x u], []⟩) Q E s := by
  obtain ⟨hp, g, d, tk, os⟩ := s
  have f1 := F.conv_sub_int
  have f2 := F.madeHere_int
  have f3 := KIN.str_int
  have f4 := KIN.str_idx
  have f5 := KIN.str_trunc
  have f6 : typeOf (.str x u) = pure (.type "str") := rfl
  delta Builtin.«int.__new__»
  dsimp only
  repeat (any_goals (first
      | assumption
      | (with_reducible refine wpP_bindA ?_)
      | (refine wpP_ite_false (fun hf => Bool.noConfusion (show false = true from hf)) ?_)
      | (refine wpP_ite_false (show ¬ (1 + 0 > 2) by decide) ?_)
      | wp_step))
  show wpP _ _ ((int_private% "intFromObject") (.str x u) >>= _) _ _ _
  refine wpP_bind ?_
  show wpP _ _ (PySem.callSpecial? (.str x u) (Str.ofString "__int__") >>= _) _ _ _
  repeat (any_goals (first
      | assumption
      | (with_reducible refine wpP_bindA ?_)
      | (refine wpP_ite_false (fun hf => Bool.noConfusion (show false = true from hf)) ?_)
      | wp_step))
  exact int_bad_text hh hl hn hrp h
set_option maxHeartbeats 4000000 in
theorem int_bad {prog : Program} {w : World} {A : Around} {E : Value → Shared → Prop} {s : Shared} {Q : Value → Shared → Prop} {x : Str} {u : Tok} (hh : A.handled = none) (hl : x.length ≤ 640) (hn : PySem.intText? x = none) (hrp : (reprText x).length ≤ sizeLine)
    (h : ∀ h' tk' e, Heap.NewExc s.heap h' e "ValueError" → E (.ref e) { s with heap := h', toks := tk' }) :
    wpP (model prog w) A (call (.type "int") [.str x u]) Q E s := by
  have ft := F.called_int
  have hct := F.typeCall_int_1 (.str x u)
  obtain ⟨c, tl, hmro⟩ := ft.mro
  have hmade := ft.made
  have hsub := ft.sub
  refine wpP_call (codeP_of_tree ?_)
  show wpP _ _ (callAny (.type "int") _) _ _ _
  refine wpP_pure ⟨Code.quiet_builtin _ (by decide +kernel), codeP_builtin F.entry_type_call ?_⟩
  rw [Around.under_plain (weight_type_call_type "int" _ []) (units_type_call_type "int" _ [])]
  have h1 := ft.notType
  have h2 := ft.canCreate
  delta Builtin.«type.__call__»
  dsimp only
  repeat (any_goals (first
      | assumption
      | (with_reducible refine wpP_bind (wpP_holding (wpP_call ?_)))
      | (with_reducible refine wpP_bindA ?_)
      | (refine wpP_ite_false (fun hf => Bool.noConfusion (show false = true from hf)) ?_)
      | (refine wpP_ite_false (by rw [h1]; exact Bool.false_ne_true) ?_)
      | (refine wpP_ite_false (by rw [h2]; exact Bool.false_ne_true) ?_)
      | wp_step))
  refine codeP_call_builtin F.called_int.plain F.entry_int_new (F.newCall_int_1 _) ?_
  exact int_bad_new hh hl hn hrp h
-- part prules

noncomputable def FnAnd (h : Heap) (a : Addr) (P : Prop) : Prop := (∃ o fd, h.get? a = some o ∧ o.data = .func fd) ∧ P

/-! the rules of the statements over the stacks that the claim's caller lies in -/
section
variable {M : Model} {A : Around} {E : Value → Shared → Prop} {s : Shared} {env : Env}
theorem wpP_standAt {α : Type} {pos : Pos} {f : Unit → Sem α} {Q : α → Shared → Prop} (h : wpP M A (f ()) Q E s) : wpP M A (standAt pos >>= f) Q E s := wpP_bindA (wpAny_standAt h)
theorem wpP_execs_cons {st rest} {Q : Flow → Shared → Prop}
    (h : wpP M A (exec st env) (fun f s' => match f with | .next => wpP M A (execs rest env) Q E s' | f => Q f s') E s) : wpP M A (execs (st :: rest) env) Q E s := by
  rw [execs_cons]
  refine wpP_bind (wpP_mono h (fun f s' h' => ?_) fun _ _ x => x)
  cases f <;> first | exact h' | exact wpP_pure h'
theorem wpP_execs_consA {st rest} {Q : Flow → Shared → Prop}
    (h : wpAny M A (exec st env) (fun f s' => match f with | .next => wpP M A (execs rest env) Q E s' | f => Q f s') E s) : wpP M A (execs (st :: rest) env) Q E s := wpP_execs_cons (wpP_any h)
theorem wpP_Return {e pos} {Q : Flow → Shared → Prop} (h : wpP M A (eval e env) (fun v => Q (.ret v)) E s) : wpP M A (exec (.Return (some e) pos) env) Q E s := by
  rw [exec_Return_some]
  exact wpP_standAt (wpP_bind (wpP_mono h (fun v s' h' => wpP_pure h') fun _ _ x => x))
theorem wpP_Assign {x pos' value pos} {Q : Flow → Shared → Prop}
    (h : wpP M A (eval value env) (fun v s₁ => wpAny M A (storeName env x v) (fun _ => Q .next) E s₁) E s)
    (hs : swapsWith value (some (.Name x pos')) pos.line env = pure false := by rfl) : wpP M A (exec (.Assign [.Name x pos'] value pos) env) Q E s := fun Γ p hΓ hc => by
  simp only [exec_Assign_Name env x pos' value pos hs, Sem.wp_bind', Sem.wp_cmd_standAt, Sem.wp_bindName, Sem.wp_pure']
  exact Sem.wp_mono M Γ _ (fun v _ s₁ h₁ => h₁ Γ _ hΓ) (fun _ _ _ h' => h') _ _ (h Γ _ hΓ hc)
theorem wpP_If {test body orelse pos} {Q : Flow → Shared → Prop}
    (h : wpP M A (isTrue test env (eval test env)) (fun b s₂ => if b then wpP M A (execs body env) Q E s₂ else wpP M A (execs orelse env) Q E s₂) E s) :
    wpP M A (exec (.If test body orelse pos) env) Q E s := fun Γ p hΓ hc => by
  simp only [exec_If, Sem.wp_bind', Sem.wp_cmd_standAt]
  refine Sem.wp_mono M Γ _ (fun b p₂ s₂ h₂ => ?_) (fun _ _ _ h' => h') _ _ (h Γ _ hΓ hc)
  cases b <;> exact h₂ Γ p₂ hΓ hc
theorem wpP_isTrue_Compare1 {l op r pos whole} {Q : Bool → Shared → Prop}
    (h : wpP M A (eval l env) (fun a s₁ => wpP M A (eval r env) (fun b s₂ => wpAny M A (compareOp op a b)
      (fun c s₃ => wpAny M A (truthy c) Q E s₃) E s₂) E s₁) E s)
    (hm : behindInMarks op r = false := by with_unfolding_all rfl) : wpP M A (isTrue (.Compare l [op] [r] pos) env whole) Q E s := fun Γ p hΓ hca => by
  simp only [isTrue_Compare1, markedBehindIn_of_false hm, Sem.wp_bind', Sem.wp_holding, Sem.wp_cmd_standAt, Sem.wp_operate]
  exact Sem.wp_mono M Γ _ (fun a p₁ s₁ h₁ => Sem.wp_mono M Γ _ (fun b _ s₂ h₂ => Sem.wp_mono M Γ _ (fun c p₃ s₃ h₃ => h₃ Γ p₃ hΓ)
    (fun _ _ _ h' => h') _ _ (h₂ Γ _ hΓ)) (fun _ _ _ h' => h') _ _ (h₁ Γ p₁ hΓ hca)) (fun _ _ _ h' => h') _ _ (h Γ p hΓ hca)
theorem wpP_List {elts : List Expr} {pos : Pos} {Q : Value → Shared → Prop}
    (h : wpP M A (spliced (backTo pos (starEach elts env)))
      (fun vs s₁ => vs.length ≤ sizeLine ∧ Q (.ref s₁.heap.objs.size) { s₁ with heap := s₁.heap.push { cls := .type "list", data := .seq vs.toArray } }) E s) : wpP M A (eval (.List elts pos) env) Q E s := by
  rw [arm_eval_List]
  exact wpP_standAt (wpP_bind (wpP_mono h (fun vs s₁ h₁ => wpP_any (wpAny_newObj_type h₁.2 (by show vs.toArray.size ≤ sizeLine; rw [List.size_toArray]; exact h₁.1))) fun _ _ x => x))
theorem wpP_Tuple {elts : List Expr} {k : Nat} {pos : Pos} {Q : Value → Shared → Prop}
    (h : wpP M A (spliced (backTo pos (starEach elts env)))
      (fun vs s₁ => vs.length ≤ sizeLine ∧ Q (.ref s₁.heap.objs.size) { s₁ with heap := s₁.heap.push { cls := .type "tuple", data := .seq vs.toArray } }) E s) : wpP M A (eval (.Tuple elts k pos) env) Q E s := by
  rw [arm_eval_Tuple]
  exact wpP_standAt (wpP_bind (wpP_mono h (fun vs s₁ h₁ => wpP_any (wpAny_newObj_type h₁.2 (by show vs.toArray.size ≤ sizeLine; rw [List.size_toArray]; exact h₁.1))) fun _ _ x => x))
theorem wpP_Call {x : Str} {np pos : Pos} {args : List Expr} {Q : Value → Shared → Prop}
    (h : wpAny M A (eval (.Name x np) env) (fun f s₁ => wpP M A (callWith pos f [] (backTo pos (starEach args env)) []) Q E s₁) E s) :
    wpP M A (eval (.Call (.Name x np) args [] pos) env) Q E s := by
  show wpP M A (do callWith pos (← eval (.Name x np) env) [] (backTo pos (starEach args env)) []) Q E s
  exact wpP_bindA h
theorem wpP_callWith_fn {pos : Pos} {a : Addr} {first : List Value} {args : List (Bool × Sem Value)} {Q : Value → Shared → Prop}
    (h : wpAny M A (evalArgs (.ref a) true args []) (fun x s₁ => FnAnd s₁.heap a (wpP M A (call (.ref a) (first ++ x.pos) x.kw) Q E s₁)) E s)
    (hplain : args.any (·.1) = false := by rfl) :
    wpP M A (callWith pos (.ref a) first args []) Q E s := by
  unfold callWith
  refine wpP_bindA (wpAny_holding (wpAny_mono h (fun x s₁ h₁ => wpP_standAt ?_) fun _ _ x => x))
  simp only [hplain, List.any_nil, Bool.or_false]
  obtain ⟨⟨o, fd, ho, hd⟩, h₂⟩ := h₁
  refine wpP_bindA (m := keeperOf (.ref a)) ?_
  unfold keeperOf
  refine wpAny_bind (wpAny_load ho ?_)
  rw [hd]
  refine wpAny_pure ?_
  have tail : ∀ {t : Sem Value}, wpP M A t Q E s₁ → wpP M A (t >>= fun r => holding [r] point >>= fun _ => pure r) Q E s₁ :=
    fun ht => wpP_bind (wpP_mono ht (fun r s₂ hr => wpP_any (wpAny_bind (wpAny_holding (wpAny_point (wpAny_pure hr))))) fun _ _ x => x)
  show wpP M A (if args.length + 2 * [].length > 30 then _ else _) Q E s₁
  split
  · exact tail h₂
  · exact tail (by unfold callMarked; exact wpP_keep h₂)
theorem wpP_callWith_type {pos : Pos} {T : String} {first : List Value} {args : List (Bool × Sem Value)} {Q : Value → Shared → Prop}
    (h : wpAny M A (evalArgs (.type T) true args []) (fun a s₁ => wpP M A (call (.type T) (first ++ a.pos) a.kw) Q E s₁) E s)
    (hplain : args.any (·.1) = false := by rfl) :
    wpP M A (callWith pos (.type T) first args []) Q E s := by
  unfold callWith
  refine wpP_bindA (wpAny_holding (wpAny_mono h (fun a s₁ h₁ => wpP_standAt ?_) fun _ _ x => x))
  simp only [hplain, List.any_nil, Bool.or_false]
  refine wpP_bindA (wpAny_pure ?_)
  exact wpP_bind (wpP_mono h₁ (fun r s₂ hr => wpP_any (wpAny_bind (wpAny_holding (wpAny_point (wpAny_pure hr))))) fun _ _ x => x)
theorem wpP_spliced_nil {Q : List Value → Shared → Prop} {pos : Pos} (h : Q [] s) : wpP M A (spliced (backTo pos (starEach [] env))) Q E s := wpP_any (Calls.spliced_nil h)
theorem wpP_spliced_more {e : Expr} {rest : List Expr} {pos : Pos} {Q : List Value → Shared → Prop}
    (h : wpP M A (eval e env) (fun v s₁ => wpP M A (spliced (backTo pos (starEach rest env))) (fun vs s₂ => Q (v :: vs) s₂) E s₁) E s)
    (he : starEach (e :: rest) env = (false, eval e env) :: starEach rest env := by rfl) : wpP M A (spliced (backTo pos (starEach (e :: rest) env))) Q E s := by
  rw [he]
  show wpP M A (spliced ((false, eval e env) :: backTo pos (starEach rest env))) Q E s
  rw [spliced]
  refine wpP_bind (wpP_mono h (fun v s₁ h₁ => ?_) fun _ _ x => x)
  simp only [Bool.false_eq_true, if_false]
  exact wpP_bindA (wpAny_pure (wpP_bind (wpP_holding (wpP_mono h₁ (fun vs s₂ h₂ => wpP_pure h₂) fun _ _ x => x))))
theorem wpP_Try {body orelse : List Stmt} {h₀ : ExceptHandler} {hs : List ExceptHandler} {pos : Pos} {Q : Flow → Shared → Prop}
    (h : wpP M A (execs body env) (fun f s₁ => match f with | .next => wpP M A (execs orelse env) Q E s₁ | f => Q f s₁)
      (fun e s₁ => wpAny M A (noteFrame e env) (fun _ s₂ => wpAny M A (setFlight e none) (fun _ s₃ => wpAny M A (handleBy e env (h₀ :: hs)) Q E s₃) E s₂) E s₁) s) :
    wpP M A (exec (.Try body (h₀ :: hs) orelse [] pos) env) Q E s := by
  rw [arm_exec_Try]
  refine wpP_standAt ?_
  unfold tryStmt
  simp only [List.isEmpty_nil, if_true, List.isEmpty_cons, Bool.false_and, Bool.false_eq_true, if_false]
  refine wpP_bind (wpP_attempt (wpP_mono h (fun f s₁ h₁ => ?_) fun e s₁ h₁ => ?_))
  · cases f <;> first | exact h₁ | exact wpP_pure h₁
  · exact wpP_any (wpAny_bind (wpAny_mono h₁ (fun _ _ h₂ => wpAny_bind h₂) fun _ _ x => x))
theorem wpP_noted {α : Type} {m : Sem α} {Q : α → Shared → Prop} (h : wpP M A m Q (notedBy M A env E) s) : wpP M A (m.onRaise fun x => do noteFrame x env; theTreesLotGoes x) Q E s :=
  wpP_onRaise (wpP_mono h (fun _ _ q => q) fun _ _ hx => wpP_any (wpAny_bind (wpAny_mono hx (fun _ _ e => wpAny_theTreesLotGoes e) fun _ _ e => e)))
theorem wpP_runOwn {c : Code} {Q : Flow → Shared → Prop}
    (hc : codeP M A c (fun r s' => match r with | .ok f => Q f s' | .error e => cameBackBy M A env E e s') s) : wpP M A (runOwn c env none) Q E s := by
  unfold runOwn
  refine wpP_onRaise (wpP_run (by rw [Around.mark_none]; exact codeP_mono hc fun r s' h' => by cases r with | ok f => exact h' | error e => exact wpP_any h') (by intro x; cases x))
theorem wpP_While {test body orelse pos} {Q : Flow → Shared → Prop}
    (h : codeP M A (.whileLoop test body orelse env) (fun r s' => match r with | .ok f => Q f s' | .error e => cameBackBy M A env E e s') s) :
    wpP M A (exec (.While test body orelse pos) env) Q E s := by
  rw [exec_While]; exact wpP_standAt (wpP_runOwn h)
theorem wpP_For {target iter body orelse pos} {Q : Flow → Shared → Prop}
    (h : wpAny M A (eval iter env) (fun x s₁ => wpAny M A (pyIter x) (fun it s₂ =>
      codeP M A (.forLoop target it body orelse env) (fun r s' => match r with | .ok f => Q f s' | .error e => cameBackBy M A env E e s') s₂) E s₁) E s)
    (hs : ∀ x, foldedSetIterable iter env x = pure x := by intro _; rfl) :
    wpP M A (exec (.For target iter body orelse pos) env) Q E s := by
  rw [exec_For]
  exact wpP_standAt (wpP_bindA (wpAny_mono h (fun x s₁ h₁ => wpP_bindA (wpAny_of_eq (hs x) (wpP_standAt (wpP_bindA (wpAny_holding
    (wpAny_mono h₁ (fun it s₂ h₂ => wpP_runOwn h₂) fun _ _ h' => h')))))) fun _ _ h' => h'))
end
section
variable {prog : Program} {w : World} {A : Around} {E : Value → Shared → Prop} {R : Result → Shared → Prop} {s : Shared} {env : Env}
theorem codeP_forLoop {target it body env} (I : Nat → Shared → Prop)
    (turn : ∀ n s, I n s → wpAny (model prog w) A (pyNext it) (fun r s₁ => match r with
      | none => R (.ok .next) s₁
      | some v => wpAny (model prog w) A (assign target env v) (fun _ s₂ => wpP (model prog w) A (execs body env) (fun f s₃ => match f with
          | .next | .cont => ∃ m, m < n ∧ I m s₃
          | .brk => R (.ok .next) s₃
          | .ret v => R (.ok (.ret v)) s₃) noE s₂) noE s₁) noE s)
    (n : Nat) (h : I n s) (ht : ∀ v, letOwnedTupleGo target it v = pure () := by intro _; rfl) : codeP (model prog w) A (.forLoop target it body [] env) R s := by
  refine codeP_loop' rfl I (fun n s hI => ?_) n h
  show wpP _ _ ((forTurn target it body [] env).onRaise (fun x => do noteFrame x env; theTreesLotGoes x)) _ _ s
  refine wpP_noted ?_
  simp only [forTurn]
  refine wpP_standAt (wpP_bindA (wpAny_onRaise (wpAny_mono (turn n s hI) (fun r s₁ h₁ => ?_) fun _ _ h' => h'.elim)))
  cases r with
  | none => exact wpP_pure (.inr ⟨rfl, codeP_any (codeAny_block (wpAny_execs_nil h₁))⟩)
  | some v =>
    refine wpP_bindA (wpAny_of_eq (ht v) ?_)
    refine wpP_bindA (wpAny_mono h₁ (fun _ s₂ h₂ => wpP_bind (wpP_mono h₂ (fun f s₃ h₃ => ?_) fun _ _ h' => h'.elim)) fun _ _ h' => h'.elim)
    cases f with
    | next => exact wpP_pure (.inl ⟨rfl, h₃⟩)
    | cont => exact wpP_pure (.inl ⟨rfl, h₃⟩)
    | brk => exact wpP_pure h₃
    | ret v => exact wpP_pure h₃
theorem codeP_whileLoop {test body env} (I : Nat → Shared → Prop)
    (turn : ∀ n s, I n s →
      wpAny (model prog w) A (isTrue test env (eval test env)) (fun b s₂ =>
        if b then wpP (model prog w) A (execs body env) (fun f s₃ => match f with
            | .next | .cont => ∃ m, m < n ∧ I m s₃
            | .brk => R (.ok .next) s₃
            | .ret v => R (.ok (.ret v)) s₃) noE s₂
        else R (.ok .next) s₂) noE s)
    (n : Nat) (h : I n s) : codeP (model prog w) A (.whileLoop test body [] env) R s := by
  refine codeP_loop' rfl I (fun n s hI => ?_) n h
  show wpP _ A ((whileTurn test body [] env).onRaise (fun x => do noteFrame x env; theTreesLotGoes x)) _ _ s
  refine wpP_noted ?_
  simp only [whileTurn]
  refine wpP_bindA (wpAny_mono (turn n s hI) (fun b s₂ h₂ => ?_) fun _ _ h' => h'.elim)
  cases b with
  | false =>
    simp only [Bool.false_eq_true, if_false] at h₂ ⊢
    exact wpP_any (wpAny_bind (wpAny_execs_nil (wpAny_pure h₂)))
  | true =>
    simp only [if_true] at h₂ ⊢
    refine wpP_bind (wpP_mono h₂ (fun f s₃ h₃ => ?_) fun _ _ h' => h'.elim)
    cases f with
    | next => exact wpP_pure (.inl ⟨rfl, h₃⟩)
    | cont => exact wpP_pure (.inl ⟨rfl, h₃⟩)
    | brk => exact wpP_pure h₃
    | ret v => exact wpP_pure h₃
end
-- part pctr

/-! contracts over the stacks that the claim's caller lies in -/
section
variable {prog : Program} {w : World} {A : Around} {E : Value → Shared → Prop} {R : Result → Shared → Prop} {s : Shared}
theorem codeP_func {body : List Stmt} {env : Env}
    (h : wpP (model prog w) (A.deeper env) (execs body env) (fun f s' => R (.ok (.ret (match f with | .ret v => v | _ => .none))) s')
      (fun e s' => wpAny (model prog w) (A.deeper env) (leaving env e) (fun _ s'' => R (.error e) s'') (fun e' s'' => R (.error e') s'') s') s) :
    codeP (model prog w) A (.func body env) R s := by
  refine codeP_of_tree ?_
  show wpP _ (A.deeper env) (do point; match ← (execs body env).onRaise (leaving env) with | .ret v => ret v | _ => ret .none) _ _ s
  refine wpP_bindA (wpAny_point (wpP_bind (wpP_onRaise (wpP_mono h (fun f s' h' => ?_) fun _ _ h' => wpP_any h'))))
  cases f <;> exact wpP_pure h'
theorem codeP_call_def {a : Addr} {o : Obj} {fd : FuncData} {body : List Stmt} {args : Args} {binds : List (Str × Value)}
    (hroom : A.depth < recursionLimit) (ho : s.heap.get? a = some o) (hdata : o.data = .func fd) (hlim : s.heap.NoLimit) (hcd : s.heap.CodeRec fd.code fd.qualname)
    (hbody : fd.body = .stmts body) (hbind : BindsTo s fd args binds)
    (hcell : ∀ x ∈ fd.scope.names, x.2 ≠ .cell) (hloc : ∀ x ∈ binds, fd.scope.names.lookup x.1 = some .local)
    (h : ∀ h₀, h₀.Ns s.heap.objs.size (fun x => binds.reverse.lookup x) → (∀ b o, s.heap.get? b = some o → h₀.get? b = some o) →
      wpP (model prog w) (A.deeper (callEnv fd s.heap.objs.size a)) (execs body (callEnv fd s.heap.objs.size a)) (fun f s' => R (.ok (.ret (match f with | .ret v => v | _ => .none))) s')
        (fun e s' => wpAny (model prog w) (A.deeper (callEnv fd s.heap.objs.size a)) (leaving (callEnv fd s.heap.objs.size a) e) (fun _ s'' => R (.error e) s'') (fun e' s'' => R (.error e') s'') s')
        { s with heap := h₀, toks := s.toks + binds.length })
    (hco : fd.scope.isCoroutine = false := by rfl) (hgen : fd.scope.isGenerator = false := by rfl) (hk : fd.scope.kind = .function := by rfl) :
    codeP (model prog w) A (.call (.ref a) args) R s := by
  refine codeP_of_tree ?_
  show wpP _ A.in1 (callAny (.ref a) args) _ _ s
  simp only [callAny]
  refine wpP_bindA (wpAny_load ho ?_)
  obtain ⟨c, oc, vs, tq, hc, hoc, hdc, hq⟩ := hcd
  have hb := hbind
  simp only [hdata, callFunction, hco, hgen, hbody, hc]
  refine wpP_bindA (m := field (.ref c) 1) (wpAny_field hoc hdc hq (wpP_bindA (wpAny_pure ?_)))
  refine wpP_bindA (hb _ _ _ _ (wpP_bindA (wpAny_newFunctionEnv hcell hloc (fun h₀ hns₀ hsb₀ => wpP_bindA (wpAny_enterFrame (hlim.fresh _ hsb₀) hroom ?_)) hk)))
  rw [← hc]
  exact wpP_pure (And.intro rfl (codeP_func (h h₀ hns₀ fun b o e => hsb₀.extBut b o (Nat.ne_of_lt (Heap.lt_size e)) (Heap.get?_push_of_some _ e))))
end
/-- a contract of a def -/
noncomputable def CtrP (prog : Program) (w : World) (K : Frag) (p : Program) (loose : List Str) (mean : ExcName → Option Value) (mg mb : Str → Option Value)
    (d u : Nat) (f : Addr) (args : List Value) (own : List (Addr × Obj)) (post : Value → List (Addr × Obj) → Prop) (err : Value → List Value → Prop) (errN : String → Prop) : Prop :=
  ∀ (dp un : Nat) (gd : Option (List Code)) (fr : List Env) (base : Heap) (s : Shared) (R : Result → Shared → Prop),
    Below (mA dp un gd fr) base fr (hid s.heap own) → K.In (hid s.heap own) → Top p loose mean mg mb (hid s.heap own) → KtsDicts (fsOf fr) (hid s.heap own) → dp + d < recursionLimit → un + u < cLine →
    (∀ q ∈ own, s.heap.get? q.1 = some q.2) →
    (∀ v s' own', Ret s own s' own' → post v own' → R (.ok (.ret v)) s') →
    (∀ v s', Flew base fr (hid s.heap own) err errN s v s' → R (.error v) s') →
    codeP (model prog w) (mA dp un gd fr) (.call (.ref f) ⟨args, []⟩) R s

theorem Ctr.toP {prog : Program} {w : World} {K : Frag} {p : Program} {loose : List Str} {mean : ExcName → Option Value} {mg mb : Str → Option Value} {d u : Nat} {f : Addr} {args : List Value} {own : List (Addr × Obj)}
  {post : Value → List (Addr × Obj) → Prop} {err : Value → List Value → Prop} {errN : String → Prop} (C : Ctr prog w K p loose mean mg mb d u f args own post err errN) : CtrP prog w K p loose mean mg mb d u f args own post err errN :=
  fun dp un gd fr base s R h1 h2 h3 h4 h5 h6 h7 h8 h9 => codeP_any (C dp un gd fr base s R h1 h2 h3 h4 h5 h6 h7 h8 h9)
section
variable {prog : Program} {w : World} {K : Frag} {p : Program} {loose : List Str} {mean : ExcName → Option Value} {mg mb : Str → Option Value} {d u : Nat} {f : Addr} {args : List Value} {own : List (Addr × Obj)}
  {post : Value → List (Addr × Obj) → Prop} {err : Value → List Value → Prop} {errN : String → Prop}

/-- a plain def is entered -/
theorem ctrP_enter {name qual : Str} {params : Arguments} {body : List Stmt} {scope : Scope} {dV kV doc pm cdv ct oc : Value} {an od : Option Addr} {osl : Array (Option Value)} {binds : List (Str × Value)}
    (ho : K.lookup f = some ⟨oc, od, .func (fnOf name qual params body scope dV kV doc pm an cdv ct), osl⟩) (hcd : codeIn K cdv qual = true)
    (hbind : ∀ s, BindsTo s (fnOf name qual params body scope dV kV doc pm an cdv ct) ⟨args, []⟩ binds) (hloc : ∀ y ∈ binds, scope.names.lookup y.1 = some .local)
    (h : ∀ (dp un : Nat) (gd : Option (List Code)) (fr : List Env) (base g : Heap) (L : Addr) (h₁ : Heap) (s : Shared), dp + d < recursionLimit → un + u < cLine →
      g = hid s.heap own → Below (mA dp un gd fr) base fr g → Fr g L h₁ (fun y => binds.reverse.lookup y) → News g L h₁ own → K.In g → Top p loose mean mg mb g → (∀ q ∈ own, q.1 < L) → KtsDicts (fsOf fr) g →
      wpP (model prog w) ((mA dp un gd fr).deeper (envOf qual scope L f cdv)) (execs body (envOf qual scope L f cdv))
        (fun fl s' => Lv s g post (match fl with | .ret v => v | _ => .none) s')
        (fun e s' => wpAny (model prog w) ((mA dp un gd fr).deeper (envOf qual scope L f cdv)) (leaving (envOf qual scope L f cdv) e) (fun _ s'' => Flew base fr g err errN s e s'') (fun e' s'' => Flew base fr g err errN s e' s'') s')
        { s with heap := h₁, toks := s.toks + binds.length })
    (hco : scope.isCoroutine = false) (hgen : scope.isGenerator = false) (hk : scope.kind = .function)
    (hcell : ∀ x ∈ scope.names, x.2 ≠ .cell) (hroom : 0 < d := by decide) : CtrP prog w K p loose mean mg mb d u f args own post err errN := by
  intro dp un gd fr base s R BG X T DG hd hu hown hret herr
  have hX : K.In s.heap := fun a o e => of_hideAll _ (X a o e)
  have hl : s.heap.NoLimit := T.nolimit.keeps fun b o e => of_hideAll _ e
  refine codeP_call_def (fd := fnOf name qual params body scope dV kV doc pm an cdv ct) (body := body) (binds := binds) (Nat.lt_of_le_of_lt (Nat.le_add_right dp d) hd) (hX _ _ ho) rfl hl (codeRec_of hX hcd) rfl (hbind s) hcell hloc (fun h₁ hns hk₁ => ?_) hco hgen hk
  refine wpP_mono (h dp un gd fr base _ s.heap.objs.size h₁ s hd hu rfl BG ⟨hns, fun b o e => hk₁ b o (of_hideAll _ e), Nat.le_of_eq (hideAll_size _ _)⟩
    (fun q hq => ⟨hk₁ _ _ (hown q hq), Nat.ne_of_lt (Heap.lt_size (hown q hq)), hideAll_none _ (List.mem_map_of_mem hq)⟩) X T (fun q hq => Heap.lt_size (hown q hq)) DG) (fun fl s' hl => ?_) fun e s' y => ?_
  · obtain ⟨own', hr, hp⟩ := hl.ret
    exact hret _ _ _ hr hp
  · exact wpAny_mono y (fun _ s'' hl => herr _ _ hl) fun e' s'' hl => herr _ _ hl

/-- a contract is used at a call; a raise goes on -/
theorem ctrP_useE (C : CtrP prog w K p loose mean mg mb d u f args own post err errN) {A₀ : Around} {base h₀ : Heap} {outer : List Env} {env : Env} {L : Addr} {m : Str → Option Value} {s : Shared} {rest : List (Addr × Obj)} {dp un : Nat} {gd : Option (List Code)}
    {Q E : Value → Shared → Prop}
    (B : Below A₀ base outer h₀) (F : Fr h₀ L s.heap m) (X : K.In h₀) (T : Top p loose mean mg mb h₀) (D : KtsDicts (fsOf outer) h₀) (N : News h₀ L s.heap (own ++ rest)) (hf : env.frame = some L) (hke : env.scope.kind = .function)
    (hd : dp + d < recursionLimit) (hu : un + u < cLine) (hap : ∀ q ∈ rest, q.1 ∉ own.map (·.1))
    (h : ∀ v own' h' tk', post v own' → Fr h₀ L h' m → News h₀ L h' (own' ++ rest) → (∀ a ∈ own', a.1 ∈ own.map (·.1) ∨ ∀ q ∈ rest, a.1 ≠ q.1) → Q v { s with heap := h', toks := tk' })
    (he : ∀ v h' tk', Fr h₀ L (hid s.heap own) m → Flew base (env :: outer) (hid s.heap own) err errN s v { s with heap := h', toks := tk' } → E v { s with heap := h', toks := tk' }) :
    wpP (model prog w) (mA dp un gd (env :: outer)) (call (.ref f) args) Q E s := by
  have No : News h₀ L s.heap own := fun q hq => N q (List.mem_append_left _ hq)
  obtain ⟨FG, BG, st, _⟩ := groundX (A := mA dp un gd (env :: outer)) (R := fun _ _ => True) B F No rfl hf hke
  refine wpP_call (C dp un gd (env :: outer) base s _ BG (X.keeps st) (T.keeps st) (dicts_push F No D hf st) hd hu (fun q hq => (No q hq).1) ?_ ?_)
  · intro v s' own' r hp
    obtain ⟨F', N', hn⟩ := ret_back F N hap r
    have e := r.same
    have := h v own' s'.heap s'.toks hp F' N' hn
    rw [← e] at this; exact this
  · intro v s' r
    have e' := r.1
    have := he v s'.heap s'.toks FG (by rw [← e']; exact r)
    rw [← e'] at this; exact this
theorem ctrP_use (C : CtrP prog w K p loose mean mg mb d u f args own post noErr noErrN) {A₀ : Around} {base h₀ : Heap} {outer : List Env} {env : Env} {L : Addr} {m : Str → Option Value} {s : Shared} {rest : List (Addr × Obj)} {dp un : Nat} {gd : Option (List Code)}
    {Q E : Value → Shared → Prop}
    (B : Below A₀ base outer h₀) (F : Fr h₀ L s.heap m) (X : K.In h₀) (T : Top p loose mean mg mb h₀) (D : KtsDicts (fsOf outer) h₀) (N : News h₀ L s.heap (own ++ rest)) (hf : env.frame = some L) (hke : env.scope.kind = .function)
    (hd : dp + d < recursionLimit) (hu : un + u < cLine) (hap : ∀ q ∈ rest, q.1 ∉ own.map (·.1))
    (h : ∀ v own' h' tk', post v own' → Fr h₀ L h' m → News h₀ L h' (own' ++ rest) → (∀ a ∈ own', a.1 ∈ own.map (·.1) ∨ ∀ q ∈ rest, a.1 ≠ q.1) → Q v { s with heap := h', toks := tk' }) :
    wpP (model prog w) (mA dp un gd (env :: outer)) (call (.ref f) args) Q E s :=
  ctrP_useE C B F X T D N hf hke hd hu hap h fun _ _ _ _ x => (flew_no x).elim
end

section
variable {M : Model} {A : Around} {E : Value → Shared → Prop} {env : Env} {Q : Flow → Shared → Prop}
theorem wp_split {Γ : PySem.Ctx} (hΓ : Γ.In A) (hc : Cal Γ) : ∀ (n : Nat) (body : List Stmt) (p : Pos) (s : Shared),
    Sem.wp M Γ (execs (body.take n) env) (fun f _ s' => match f with | .next => wpP M A (execs (body.drop n) env) Q E s' | f => Q f s') (fun e _ s' => E e s') p s →
      Sem.wp M Γ (execs body env) (fun f _ s' => Q f s') (fun e _ s' => E e s') p s
  | 0, body, p, s, h => by
    have h' : wpP M A (execs body env) Q E s := h
    exact h' Γ p hΓ hc
  | n + 1, [], p, s, h => by
    have h' : wpP M A (execs [] env) Q E s := h
    exact h' Γ p hΓ hc
  | n + 1, a :: body, p, s, h => by
    rw [List.take_succ_cons, execs_cons, Sem.wp_bind'] at h
    rw [execs_cons, Sem.wp_bind']
    refine Sem.wp_mono M Γ _ (fun f p' s' h' => ?_) (fun _ _ _ h' => h') p s h
    cases f with
    | next => exact wp_split hΓ hc n body p' s' h'
    | brk => exact h'
    | cont => exact h'
    | ret v => exact h'
theorem wpP_split (n : Nat) {body : List Stmt} {s : Shared}
    (h : wpAny M A (execs (body.take n) env) (fun f s' => match f with | .next => wpP M A (execs (body.drop n) env) Q E s' | f => Q f s') E s) : wpP M A (execs body env) Q E s :=
  fun Γ p hΓ hc => wp_split hΓ hc n body p s (h Γ p hΓ)
end

section
variable {M : Model} {A : Around} {E : Value → Shared → Prop} {s : Shared} {env : Env} {pos : Pos}
theorem wpP_callWith_type1 {T : String} {e : Expr} {Q : Value → Shared → Prop} (h : wpAny M A (eval e env) (fun v s₁ => wpP M A (call (.type T) [v]) Q E s₁) E s)
    (he : starEach [e] env = [(false, eval e env)] := by rfl) : wpP M A (callWith pos (.type T) [] (backTo pos (starEach [e] env)) []) Q E s := by
  rw [he]
  exact wpP_callWith_type (evalArgs_plain (Calls.spliced_cons (wpAny_mono h (fun v s₁ h₁ => Calls.spliced_nil h₁) fun _ _ x => x)))
theorem wpP_callWith_fn1 {a : Addr} {e : Expr} {Q : Value → Shared → Prop} (h : wpAny M A (eval e env) (fun v s₁ => FnAnd s₁.heap a (wpP M A (call (.ref a) [v]) Q E s₁)) E s)
    (he : starEach [e] env = [(false, eval e env)] := by rfl) : wpP M A (callWith pos (.ref a) [] (backTo pos (starEach [e] env)) []) Q E s := by
  rw [he]
  exact wpP_callWith_fn (evalArgs_plain (Calls.spliced_cons (wpAny_mono h (fun v s₁ h₁ => Calls.spliced_nil h₁) fun _ _ x => x)))
theorem wpP_callWith_fn2 {a : Addr} {e e' : Expr} {Q : Value → Shared → Prop} (h : wpAny M A (eval e env) (fun v s₁ => wpAny M A (eval e' env) (fun v' s₂ => FnAnd s₂.heap a (wpP M A (call (.ref a) [v, v']) Q E s₂)) E s₁) E s)
    (he : starEach [e, e'] env = [(false, eval e env), (false, eval e' env)] := by rfl) : wpP M A (callWith pos (.ref a) [] (backTo pos (starEach [e, e'] env)) []) Q E s := by
  rw [he]
  exact wpP_callWith_fn (evalArgs_plain (Calls.spliced_cons (wpAny_mono h (fun v s₁ h₁ => Calls.spliced_cons (wpAny_mono h₁ (fun v' s₂ h₂ => Calls.spliced_nil h₂) fun _ _ x => x)) fun _ _ x => x)))
theorem fn_at {K : Frag} {g h : Heap} {L f : Addr} {m : Str → Option Value} {oc : Value} {od : Option Addr} {fd : FuncData} {osl : Array (Option Value)} (X : K.In g) (F : Fr g L h m) (ho : K.lookup f = some ⟨oc, od, .func fd, osl⟩) : ∃ o fd, h.get? f = some o ∧ o.data = .func fd :=
  ⟨_, _, F.keep _ _ (X _ _ ho), rfl⟩
end
-- part pexc
section
variable {prog : Program} {w : World} {M : Model} {A : Around} {E : Value → Shared → Prop} {s : Shared} {K : Frag} {e t C : Addr} {oe ot : Obj} {ws : Array Value} {m : Str} {tk : Tok}
open Builtin Builtin.Str Builtin.BaseException
theorem exc_args {Q : Value × List Value → Shared → Prop} (he : s.heap.get? e = some oe) (hd : oe.data = .fields ws) (h0 : ws[0]? = some (.ref t)) {nt : Nat} (ht : s.heap.get? t = some ot) (hdt : ot.data = .seq #[.str m tk] nt)
    (hq : Q (.ref t, [.str m tk]) s) : wpAny M A (bexcArgs (.ref e)) Q E s := by
  unfold bexcArgs
  refine wpAny_bind (wpAny_field he hd h0 (wpAny_bind (wpAny_seqItems ht hdt ?_)))
  exact wpAny_pure hq
theorem exc_text {Q : Fin → Shared → Prop} (he : s.heap.get? e = some oe) (hd : oe.data = .fields ws) (h0 : ws[0]? = some (.ref t)) {nt : Nat} (ht : s.heap.get? t = some ot) (hdt : ot.data = .seq #[.str m tk] nt)
    (hq : Q (.done (.ret (.str m tk))) s) : wpAny (model prog w) A (Builtin.«BaseException.__str__» ⟨[.ref e], []⟩) Q E s := by
  unfold Builtin.«BaseException.__str__»
  repeat (first | with_reducible refine exc_args he hd h0 ht hdt ?_ | wp_step)
  exact hq
theorem exc_call {Q : Value → Shared → Prop} (X : K.In s.heap) (hm : mroIn K C (.type "BaseException") = some true) (he : s.heap.get? e = some oe) (hc : oe.cls = .ref C) (hd : oe.data = .fields ws) (h0 : ws[0]? = some (.ref t)) {nt : Nat} (ht : s.heap.get? t = some ot) (hdt : ot.data = .seq #[.str m tk] nt)
    (h : Q (.str m tk) s) : wpAny (model prog w) A (call (.builtin "BaseException.__str__") [.ref e]) Q E s := by
  have ty : Looks (model prog w) s.heap (typeOf (.ref e)) (.ref C) := by
    rw [← hc]; exact (Looks.ld he).andThen .now
  refine wpAny_call (codeAny_call_builtin PySem.F.excStr_ValueError.str.plain PySem.F.entry_bexc_str (check_slot (i := "BaseException.__str__") (owner := "BaseException") (n := "__str__") (by decide +kernel) (by decide +kernel) (ty.andThen (looks_mroIn X hm)) (PySem.F.args_bexc_str _) ?_))
  exact exc_text he hd h0 ht hdt h
theorem str_exc {Q : Value → Shared → Prop} (hu : A.in1.in1.units < cLine) (X : K.In s.heap) (hs : findIn K (.ref C) "__str__" = some (some (.builtin "BaseException.__str__"))) (hm : mroIn K C (.type "BaseException") = some true)
    (he : s.heap.get? e = some oe) (hc : oe.cls = .ref C) (hd : oe.data = .fields ws) (h0 : ws[0]? = some (.ref t)) {nt : Nat} (ht : s.heap.get? t = some ot) (hdt : ot.data = .seq #[.str m tk] nt)
    (h : Q (.str m tk) s) : wpAny (model prog w) A (call (.type "str") [.ref e]) Q E s := by
  have ty : Looks (model prog w) s.heap (typeOf (.ref e)) (.ref C) := by
    rw [← hc]; exact (Looks.ld he).andThen .now
  have hb : ∀ self, bindSpecial (.builtin "BaseException.__str__") self = pure (.builtin "BaseException.__str__", [self]) := PySem.F.excStr_ValueError.str.bind
  refine callType_codes (T := "str") (Bi := Builtin.«object.__init__») (Q₁ := fun r s₁ => ∃ y u, r = .str y u ∧ Q r s₁) PySem.F.called_str (PySem.F.typeCall_str_1 _) PySem.F.entry_object_init ?_ ?_
  · refine codeAny_of_tree ?_
    show wpAny _ A.in1.in1 (do checkBuiltinCall "str.__new__" ⟨[.type "str", .ref e], []⟩; again (.builtin "str.__new__" ⟨[.type "str", .ref e], []⟩)) _ _ s
    refine wpAny_bind (wpAny_of_eq (PySem.F.newCall_str_1 _) (wpAny_pure ⟨plainId_quiet (by decide +kernel) _, codeAny_builtin PySem.F.entry_str_new ?_⟩))
    rw [Around.under_plainId (by decide +kernel) _]
    rw [str_new_tree]
    refine wpAny_bind (wpAny_pure ?_)
    refine wpAny_bind (wpAny_of_eq isSubtype_str_str ?_)
    have key : wpAny (model prog w) A.in1.in1 (PySem.Builtin.Str.strOf (.ref e)) (fun r s₁ => ∃ y u, r = .str y u ∧ Q r s₁) E s := by
      unfold PySem.Builtin.Str.strOf
      rw [show isExactStr (.ref e) = false from rfl]
      refine wpAny_bind (m := cRoomFor _ _) (wpAny_cRoomFor hu ?_)
      refine wpAny_bind (m := callSpecial? (.ref e) (Str.ofString "__str__")) (wpAny_bind (wpAny_bind (ty.here ((looks_findIn X hs).here (wpAny_holding (wpAny_bind ((Looks.of_pure (hb _)).here (wpAny_bind (exc_call X hm he hc hd h0 ht hdt ?_)))))))))
      exact wpAny_pure (wpAny_pure ⟨_, _, rfl, h⟩)
    exact wpAny_bind (wpAny_mono key (fun r s₁ hr => wpAny_pure hr) fun _ _ y => y)
  · rintro obj s₁ ⟨y, u, rfl, hq⟩
    exact ⟨typeIs_str _ _ _, PySem.F.args_object_init_2 _ _, object_init_meets PySem.F.called_str.init.lookup PySem.F.called_str.made (by decide) prog w A.in1 _ s₁ ⟨typeIs_str _ _ _, rfl, hq⟩⟩
end
-- part pctrt

/-! contracts of the defs that catch: the callers' frames may have got other slots -/
structure RetT (fs : List Addr) (s : Shared) (own : List (Addr × Obj)) (s' : Shared) (own' : List (Addr × Obj)) : Prop where
  same : s' = { s with heap := s'.heap, toks := s'.toks }
  turn : ∃ g', KtsTurn fs (hid s.heap own) g' ∧ ∀ b o, g'.get? b = some o → s'.heap.get? b = some o
  at_ : ∀ p ∈ own', s'.heap.get? p.1 = some p.2
  from_ : ∀ p ∈ own', p.1 ∈ own.map (·.1) ∨ s.heap.get? p.1 = none
noncomputable def CtrT (prog : Program) (w : World) (K : Frag) (p : Program) (loose : List Str) (mean : ExcName → Option Value) (mg mb : Str → Option Value)
    (d u : Nat) (f : Addr) (args : List Value) (own : List (Addr × Obj)) (post : Value → List (Addr × Obj) → Prop) : Prop :=
  ∀ (dp un : Nat) (gd : Option (List Code)) (fr : List Env) (base : Heap) (s : Shared) (R : Result → Shared → Prop),
    Below (mA dp un gd fr) base fr (hid s.heap own) → K.In base → Top p loose mean mg mb base → KtsDicts (fsOf fr) (hid s.heap own) → dp + d < recursionLimit → un + u < cLine →
    (∀ q ∈ own, s.heap.get? q.1 = some q.2) →
    (∀ v s' own', RetT (fsOf fr) s own s' own' → post v own' → R (.ok (.ret v)) s') →
    codeP (model prog w) (mA dp un gd fr) (.call (.ref f) ⟨args, []⟩) R s
/-- the end of the body of such a def -/
inductive LvT (s : Shared) (fs : List Addr) (g : Heap) (post : Value → List (Addr × Obj) → Prop) (v : Value) (s' : Shared) : Prop
  | mk (g' : Heap) (L' : Addr) (m' : Str → Option Value) (own' : List (Addr × Obj)) (e : s' = { s with heap := s'.heap, toks := s'.toks }) (T : KtsTurn fs g g') (F : Fr g' L' s'.heap m') (N : News g' L' s'.heap own') (p : post v own')
section
variable {prog : Program} {w : World} {K : Frag} {p : Program} {loose : List Str} {mean : ExcName → Option Value} {mg mb : Str → Option Value} {d u : Nat} {f : Addr} {args : List Value} {own : List (Addr × Obj)}
  {post : Value → List (Addr × Obj) → Prop}
theorem turn_none {fs : List Addr} {g g' : Heap} (T : KtsTurn fs g g') {b : Addr} (e : g'.get? b = none) : g.get? b = none := by
  cases q : g.get? b with
  | none => rfl
  | some o => obtain ⟨sl, h⟩ := T.up q; rw [e] at h; cases h
theorem LvT.ret {s : Shared} {fs : List Addr} {v : Value} {s' : Shared} (h : LvT s fs (hid s.heap own) post v s') : ∃ own', RetT fs s own s' own' ∧ post v own' := by
  obtain ⟨g', L', m', own', e, T, F, N, hp⟩ := h
  exact ⟨own', ⟨e, ⟨g', T, F.keep⟩, fun q hq => (N q hq).1, fun q hq => hid_none (turn_none T (N q hq).2.2)⟩, hp⟩
theorem Lv.T {s : Shared} {fs : List Addr} {g : Heap} {v : Value} {s' : Shared} (h : Lv s g post v s') : LvT s fs g post v s' := by
  obtain ⟨L', m', own', e, F, N, hp⟩ := h
  exact ⟨g, L', m', own', e, .refl, F, N, hp⟩
theorem ctrT_enter {name qual : Str} {params : Arguments} {body : List Stmt} {scope : Scope} {dV kV doc pm cdv ct oc : Value} {an od : Option Addr} {osl : Array (Option Value)} {binds : List (Str × Value)}
    (ho : K.lookup f = some ⟨oc, od, .func (fnOf name qual params body scope dV kV doc pm an cdv ct), osl⟩) (hcd : codeIn K cdv qual = true)
    (hbind : ∀ s, BindsTo s (fnOf name qual params body scope dV kV doc pm an cdv ct) ⟨args, []⟩ binds) (hloc : ∀ y ∈ binds, scope.names.lookup y.1 = some .local)
    (h : ∀ (dp un : Nat) (gd : Option (List Code)) (fr : List Env) (base g : Heap) (L : Addr) (h₁ : Heap) (s : Shared), dp + d < recursionLimit → un + u < cLine →
      g = hid s.heap own → Below (mA dp un gd fr) base fr g → Fr g L h₁ (fun y => binds.reverse.lookup y) → News g L h₁ own → K.In base → Top p loose mean mg mb base → K.In g → Top p loose mean mg mb g → (∀ q ∈ own, q.1 < L) → KtsDicts (fsOf fr) g →
      wpP (model prog w) ((mA dp un gd fr).deeper (envOf qual scope L f cdv)) (execs body (envOf qual scope L f cdv))
        (fun fl s' => LvT s (fsOf fr) g post (match fl with | .ret v => v | _ => .none) s') noE
        { s with heap := h₁, toks := s.toks + binds.length })
    (hco : scope.isCoroutine = false) (hgen : scope.isGenerator = false) (hk : scope.kind = .function)
    (hcell : ∀ x ∈ scope.names, x.2 ≠ .cell) (hroom : 0 < d := by decide) : CtrT prog w K p loose mean mg mb d u f args own post := by
  intro dp un gd fr base s R BG XB TB DG hd hu hown hret
  have XG : K.In (hid s.heap own) := XB.keeps BG.stays
  have TG : Top p loose mean mg mb (hid s.heap own) := TB.keeps BG.stays
  have hX : K.In s.heap := fun a o e => of_hideAll _ (XG a o e)
  have hl : s.heap.NoLimit := TG.nolimit.keeps fun b o e => of_hideAll _ e
  refine codeP_call_def (fd := fnOf name qual params body scope dV kV doc pm an cdv ct) (body := body) (binds := binds) (Nat.lt_of_le_of_lt (Nat.le_add_right dp d) hd) (hX _ _ ho) rfl hl (codeRec_of hX hcd) rfl (hbind s) hcell hloc (fun h₁ hns hk₁ => ?_) hco hgen hk
  refine wpP_mono (h dp un gd fr base _ s.heap.objs.size h₁ s hd hu rfl BG ⟨hns, fun b o e => hk₁ b o (of_hideAll _ e), Nat.le_of_eq (hideAll_size _ _)⟩
    (fun q hq => ⟨hk₁ _ _ (hown q hq), Nat.ne_of_lt (Heap.lt_size (hown q hq)), hideAll_none _ (List.mem_map_of_mem hq)⟩) XB TB XG TG (fun q hq => Heap.lt_size (hown q hq)) DG) (fun fl s' hl => ?_) fun e s' y => y.elim
  obtain ⟨own', hr, hp⟩ := hl.ret
  exact hret _ _ _ hr hp

/-- what the outermost def keeps over such a call -/
theorem retT_back {h₀ : Heap} {L : Addr} {m : Str → Option Value} {s s' : Shared} {rest own' : List (Addr × Obj)} {fs : List Addr} (F : Fr h₀ L s.heap m) (N : News h₀ L s.heap (own ++ rest)) (hap : ∀ q ∈ rest, q.1 ∉ own.map (·.1)) (r : RetT (L :: fs) s own s' own')
    (hfs : ∀ b ∈ fs, ∃ o es n, h₀.get? b = some o ∧ o.data = .dict es n) :
    ∃ h₀', KtsTurn fs h₀ h₀' ∧ Fr h₀' L s'.heap m ∧ News h₀' L s'.heap (own' ++ rest) ∧ ∀ a ∈ own', a.1 ∈ own.map (·.1) ∨ ∀ q ∈ rest, a.1 ≠ q.1 := by
  have No : News h₀ L s.heap own := fun q hq => N q (List.mem_append_left _ hq)
  have nm : ∀ b o, h₀.get? b = some o → b ∉ own.map (·.1) := fun b o e q => by
    obtain ⟨q', hq, rfl⟩ := List.mem_map.mp q
    rw [(No q' hq).2.2] at e; cases e
  have nL : L ∉ own.map (·.1) := fun q => by
    obtain ⟨q', hq, e⟩ := List.mem_map.mp q
    exact (No q' hq).2.1 e
  obtain ⟨oL, es, ep, hL, hLd, hLk, hLf⟩ := F.ns
  obtain ⟨g', T, kp⟩ := r.turn
  have h0L : h₀.get? L = none := Heap.get?_none_of_le F.above
  have up : ∀ b o, s.heap.get? b = some o → b ∉ own.map (·.1) → ∃ sl, s'.heap.get? b = some { o with slots := sl } := fun b o e hn => by
    obtain ⟨sl, h⟩ := T.up (hideAll_get _ e hn)
    exact ⟨sl, kp _ _ h⟩
  obtain ⟨T', S'⟩ := kts_turn_at (h := s'.heap) (fs := fs) (g := h₀) (fun b hb => by obtain ⟨o, _, _, ho, _⟩ := hfs b hb; exact ⟨o, ho⟩)
    (fun b o e hb => kp _ _ (T.other b o (hideAll_get _ (F.keep b o e) (nm b o e)) (fun hm => by
      rcases List.mem_cons.mp hm with rfl | hm
      · rw [h0L] at e; cases e
      · exact hb hm)))
    (fun b o e hb => up b o (F.keep b o e) (nm b o e))
  have notfs : ∀ q : Addr × Obj, h₀.get? q.1 = none → q.1 ≠ L → q.1 ∉ (L :: fs) := fun q h1 h2 hm => by
    rcases List.mem_cons.mp hm with e | hm
    · exact h2 e
    · obtain ⟨o, _, _, ho, _⟩ := hfs _ hm
      rw [h1] at ho; cases ho
  obtain ⟨sl, hL'⟩ := up L oL hL nL
  refine ⟨_, T', ⟨⟨_, es, ep, hL', hLd, hLk, hLf⟩, S', by rw [T'.size]; exact F.above⟩, fun q hq => ?_, fun a ha => ?_⟩
  · rcases List.mem_append.mp hq with hq | hq
    · refine ⟨r.at_ q hq, ?_, T'.none_ _ ?_⟩
      · rcases r.from_ q hq with h1 | h1
        · exact fun e => nL (e ▸ h1)
        · intro e; rw [e, hL] at h1; cases h1
      · rcases r.from_ q hq with h1 | h1
        · obtain ⟨q', hq', e⟩ := List.mem_map.mp h1
          have := (No q' hq').2.2
          rw [e] at this; exact this
        · cases q2 : h₀.get? q.1 with
          | none => rfl
          | some o => rw [F.keep _ _ q2] at h1; cases h1
    · have z := N q (List.mem_append_right _ hq)
      refine ⟨kp _ _ (T.other _ _ (hideAll_get _ z.1 (hap q hq)) (notfs q z.2.2 z.2.1)), z.2.1, T'.none_ _ z.2.2⟩
  · rcases r.from_ a ha with h1 | h1
    · exact .inl h1
    · refine .inr fun q hq e => ?_
      rw [e, (N q (List.mem_append_right _ hq)).1] at h1; cases h1

/-- such a contract is used -/
theorem ctrT_use (C : CtrT prog w K p loose mean mg mb d u f args own post) {A₀ : Around} {base h₀ : Heap} {outer : List Env} {env : Env} {L : Addr} {m : Str → Option Value} {s : Shared} {rest : List (Addr × Obj)} {dp un : Nat} {gd : Option (List Code)}
    {Q E : Value → Shared → Prop}
    (B : Below A₀ base outer h₀) (F : Fr h₀ L s.heap m) (XB : K.In base) (TB : Top p loose mean mg mb base) (D : KtsDicts (fsOf outer) h₀) (N : News h₀ L s.heap (own ++ rest)) (hf : env.frame = some L) (hke : env.scope.kind = .function)
    (hd : dp + d < recursionLimit) (hu : un + u < cLine) (hap : ∀ q ∈ rest, q.1 ∉ own.map (·.1))
    (h : ∀ v own' h' tk' h₀', post v own' → KtsTurn (fsOf outer) h₀ h₀' → Fr h₀' L h' m → News h₀' L h' (own' ++ rest) → (∀ a ∈ own', a.1 ∈ own.map (·.1) ∨ ∀ q ∈ rest, a.1 ≠ q.1) → Q v { s with heap := h', toks := tk' }) :
    wpP (model prog w) (mA dp un gd (env :: outer)) (call (.ref f) args) Q E s := by
  have No : News h₀ L s.heap own := fun q hq => N q (List.mem_append_left _ hq)
  obtain ⟨FG, BG, st, _⟩ := groundX (A := mA dp un gd (env :: outer)) (R := fun _ _ => True) B F No rfl hf hke
  have efs : fsOf (env :: outer) = L :: fsOf outer := by simp [fsOf, hf]
  refine wpP_call (C dp un gd (env :: outer) base s _ BG XB TB (dicts_push F No D hf st) hd hu (fun q hq => (No q hq).1) ?_)
  intro v s' own' r hp
  rw [efs] at r
  obtain ⟨h₀', T', F', N', hn⟩ := retT_back F N hap r D
  have e := r.same
  have := h v own' s'.heap s'.toks h₀' hp T' F' N' hn
  rw [← e] at this; exact this
end
-- part pcell
/-- a def with cells is entered -/
theorem ctr_enterC {prog : Program} {w : World} {K : Frag} {p : Program} {loose : List Str} {mean : ExcName → Option Value} {mg mb : Str → Option Value} {d u : Nat} {f : Addr} {args : List Value} {own : List (Addr × Obj)}
    {post : Value → List (Addr × Obj) → Prop} {err : Value → List Value → Prop} {errN : String → Prop} {name qual : Str} {params : Arguments} {body : List Stmt} {scope : Scope} {dV kV doc pm cdv ct oc : Value} {an od : Option Addr} {osl : Array (Option Value)} {binds : List (Str × Value)}
    (ho : K.lookup f = some ⟨oc, od, .func (fnOf name qual params body scope dV kV doc pm an cdv ct), osl⟩) (hcd : codeIn K cdv qual = true)
    (hbind : ∀ s, BindsTo s (fnOf name qual params body scope dV kV doc pm an cdv ct) ⟨args, []⟩ binds) (hkind : (binds.all fun y => scope.names.lookup y.1 == some .local || scope.names.lookup y.1 == some .cell) = true)
    (hnd : ((cellsFrom 0 scope.names []).map (·.1)).Nodup)
    (h : ∀ (dp un : Nat) (gd : Option (List Code)) (fr : List Env) (base g : Heap) (L : Addr) (h₁ : Heap) (s : Shared) (tk : Nat) (cells : List (Addr × Obj)), dp + d < recursionLimit → un + u < cLine →
      g = hid s.heap own → Below (mA dp un gd fr) base fr g → Fr g L h₁ (bindL (envOfC qual scope L f cdv).kindOf binds fun _ => none) → News g L h₁ (cells ++ own) →
      CellsAre (bindC (envOfC qual scope L f cdv).kindOf binds fun _ => none) (cellsFrom (L + 1) scope.names []) cells → K.In g → Top p loose mean mg mb g → (∀ q ∈ own, q.1 < L) → KtsDicts (fsOf fr) g →
      wpAny (model prog w) ((mA dp un gd fr).deeper (envOfC qual scope L f cdv)) (execs body (envOfC qual scope L f cdv))
        (fun fl s' => Lv s g post (match fl with | .ret v => v | _ => .none) s')
        (fun e s' => wpAny (model prog w) ((mA dp un gd fr).deeper (envOfC qual scope L f cdv)) (leaving (envOfC qual scope L f cdv) e) (fun _ s'' => Flew base fr g err errN s e s'') (fun e' s'' => Flew base fr g err errN s e' s'') s')
        { s with heap := h₁, toks := tk })
    (hco : scope.isCoroutine = false) (hgen : scope.isGenerator = false) (hk : scope.kind = .function) (hroom : 0 < d := by decide) : Ctr prog w K p loose mean mg mb d u f args own post err errN := by
  intro dp un gd fr base s R BG X T DG hd hu hown hret herr
  have hX : K.In s.heap := fun a o e => of_hideAll _ (X a o e)
  have hl : s.heap.NoLimit := T.nolimit.keeps fun b o e => of_hideAll _ e
  refine codeAny_call_function (Nat.lt_of_le_of_lt (Nat.le_add_right dp d) hd) (hX _ _ ho) rfl hco hgen rfl (codeRec_of hX hcd) (hbind s _ _ _ _ ?_)
  refine wpAny_newFunctionEnv_cells hk (kindsX hkind _) fun env' he s' x => ?_
  subst he
  refine ⟨hl.keeps x.toInCall.keep, codeAny_func ?_⟩
  obtain ⟨h₁, tk, rfl, _⟩ := x.done
  have hk₁ := x.toInCall.keep
  obtain ⟨cells, NC, Y⟩ := Cl.news (h₀ := s.heap) (Nat.le_refl _) fun n c hm => ⟨x.cell n c (lookup_of_mem_nodup (cellsFrom_names scope.names 0 (s.heap.objs.size + 1) [] [] rfl ▸ hnd) hm), x.above n c hm⟩
  refine wpAny_mono (h dp un gd fr base _ s.heap.objs.size h₁ s tk cells hd hu rfl BG ⟨x.toInCall.ns, fun b o e => hk₁ b o (of_hideAll _ e), Nat.le_of_eq (hideAll_size _ _)⟩ (fun q hq => ?_) Y X T (fun q hq => Heap.lt_size (hown q hq)) DG) (fun fl s' hl => ?_) fun e s' y => ?_
  · rcases List.mem_append.mp hq with hq | hq
    · refine ⟨(NC q hq).1, (NC q hq).2.1, ?_⟩
      cases z : (hid s.heap own).get? q.1 with
      | none => rfl
      | some o => have := of_hideAll _ z; rw [(NC q hq).2.2] at this; cases this
    · exact ⟨hk₁ _ _ (hown q hq), Nat.ne_of_lt (Heap.lt_size (hown q hq)), hideAll_none _ (List.mem_map_of_mem hq)⟩
  · obtain ⟨own', hr, hp⟩ := hl.ret
    exact hret _ _ _ hr hp
  · exact wpAny_mono y (fun _ s'' hl => herr _ _ hl) fun e' s'' hl => herr _ _ hl
-- part pcls
section
variable {prog : Program} {w : World} {K : Frag} {p : Program} {loose : List Str} {mean : ExcName → Option Value} {mg mb : Str → Option Value} {d u : Nat} {f : Addr} {args : List Value} {own : List (Addr × Obj)}
  {post : Value → List (Addr × Obj) → Prop}
/-- a contract as a code -/
theorem ctr_code (C : Ctr prog w K p loose mean mg mb d u f args own post noErr noErrN) {A₀ : Around} {base h₀ : Heap} {outer : List Env} {env : Env} {L : Addr} {m : Str → Option Value} {s : Shared} {rest : List (Addr × Obj)} {dp un : Nat} {gd : Option (List Code)}
    {R : Result → Shared → Prop}
    (B : Below A₀ base outer h₀) (F : Fr h₀ L s.heap m) (X : K.In h₀) (T : Top p loose mean mg mb h₀) (D : KtsDicts (fsOf outer) h₀) (N : News h₀ L s.heap (own ++ rest)) (hf : env.frame = some L) (hke : env.scope.kind = .function)
    (hd : dp + d < recursionLimit) (hu : un + u < cLine) (hap : ∀ q ∈ rest, q.1 ∉ own.map (·.1))
    (h : ∀ v own' h' tk', post v own' → Fr h₀ L h' m → News h₀ L h' (own' ++ rest) → (∀ a ∈ own', a.1 ∈ own.map (·.1) ∨ ∀ q ∈ rest, a.1 ≠ q.1) → R (.ok (.ret v)) { s with heap := h', toks := tk' }) :
    codeAny (model prog w) (mA dp un gd (env :: outer)) (.call (.ref f) ⟨args, []⟩) R s := by
  have No : News h₀ L s.heap own := fun q hq => N q (List.mem_append_left _ hq)
  obtain ⟨FG, BG, st, _⟩ := groundX (A := mA dp un gd (env :: outer)) (R := fun _ _ => True) B F No rfl hf hke
  refine C dp un gd (env :: outer) base s _ BG (X.keeps st) (T.keeps st) (dicts_push F No D hf st) hd hu (fun q hq => (No q hq).1) ?_ (fun v s' r => (flew_no r).elim)
  intro v s' own' r hp
  obtain ⟨F', N', hn⟩ := ret_back F N hap r
  have e := r.same
  have := h v own' s'.heap s'.toks hp F' N' hn
  rw [← e] at this; exact this
/-- a class is called whose __init__ has a contract -/
theorem cls_use {C fI : Addr} {pos : List Value} {d u : Nat} {own : List (Addr × Obj)} {postI : Addr → Addr → Value → List (Addr × Obj) → Prop}
    (CI : ∀ x dx, dx < x → Ctr prog w K p loose mean mg mb d u fI (.ref x :: pos) ([(x, instObj C dx), (dx, dictOf [] 0)] ++ own) (postI x dx) noErr noErrN) (hno : ∀ x dx v own', postI x dx v own' → v = .none)
    {A₀ : Around} {base h₀ : Heap} {outer : List Env} {env : Env} {L : Addr} {m : Str → Option Value} {s : Shared} {rest : List (Addr × Obj)} {dp un : Nat} {gd : Option (List Code)}
    {Q E : Value → Shared → Prop}
    (B : Below A₀ base outer h₀) (F : Fr h₀ L s.heap m) (X : K.In h₀) (T : Top p loose mean mg mb h₀) (D : KtsDicts (fsOf outer) h₀) (N : News h₀ L s.heap (own ++ rest)) (hf : env.frame = some L) (hke : env.scope.kind = .function)
    (hm : makesIn K C = true) (hi : findIn K (.ref C) "__init__" = some (some (.ref fI))) (hfn : isFn K (.ref fI) = true)
    (hd : dp + 1 + d < recursionLimit) (hu : un + 1 + u < cLine) (hap : ∀ q ∈ rest, q.1 ∉ own.map (·.1))
    (h : ∀ x dx own' h' tk', dx < x → postI x dx .none own' → Fr h₀ L h' m → News h₀ L h' (own' ++ rest) → (∀ a ∈ own', (∀ q ∈ rest, a.1 ≠ q.1)) → (∀ q ∈ own ++ rest, q.1 < dx) → Q (.ref x) { s with heap := h', toks := tk' }) :
    wpAny (model prog w) (mA dp un gd (env :: outer)) (call (.ref C) pos) Q E s := by
  refine call_cls F X N hm hi hfn fun x dx h' F' N' l1 l2 => ?_
  show codeAny _ (mA (dp + 1) (un + 1) gd (env :: outer)) _ _ _
  have N'' : News h₀ L h' (([(x, instObj C dx), (dx, dictOf [] 0)] ++ own) ++ rest) := fun q hq => N' q (by simpa using hq)
  have hx : ∀ q ∈ own ++ rest, q.1 < dx := l1
  have hap' : ∀ q ∈ rest, q.1 ∉ ([(x, instObj C dx), (dx, dictOf [] 0)] ++ own).map (·.1) := fun q hq hm => by
    have h1 := hx q (List.mem_append_right _ hq)
    simp only [List.cons_append, List.nil_append, List.map_cons, List.mem_cons] at hm
    rcases hm with e | e | e
    · rw [e] at h1; exact Nat.lt_irrefl _ (Nat.lt_trans h1 l2)
    · rw [e] at h1; exact Nat.lt_irrefl _ h1
    · exact hap q hq e
  refine ctr_code (dp := dp + 1) (un := un + 1) (gd := gd) (env := env) (outer := outer) (CI x dx l2) (s := { s with heap := h' }) B F' X T D N'' hf hke hd hu hap' ?_
  intro v own' h2 tk2 hp F2 N2 hn
  obtain rfl := hno x dx v own' hp
  refine ⟨rfl, h x dx own' h2 tk2 l2 hp F2 N2 (fun a ha q hq => ?_) l1⟩
  rcases hn a ha with e | e
  · intro e2
    exact hap' q hq (e2 ▸ e)
  · exact e q hq
end
-- part phd
noncomputable def codeHdB (K : Frag) (c P : Addr) : Bool := match K.lookup c with
  | some o => (match o.data with
    | .fields vs => (o.cls == .type "code") && (vs[11]? == some (.ref P)) && (match vs.getD 18 .none, vs.getD 7 .none, vs.getD 9 .none, vs.getD 10 .none with | .str _ _, .int _ _, .bool _, .int _ _ => true | _, _, _, _ => false) && (c != P)
    | _ => false)
  | none => false
theorem codeHd_of {K : Frag} {h : Heap} {c P : Addr} (X : K.In h) (e : codeHdB K c P = true) : CodeHd h c P := by
  unfold codeHdB at e
  split at e
  · rename_i o ho
    split at e
    · rename_i vs hv
      simp only [Bool.and_eq_true, beq_iff_eq, bne_iff_ne] at e
      obtain ⟨⟨⟨e1, e2⟩, e3⟩, e4⟩ := e
      split at e3
      · rename_i a1 a2 a3 a4 a5 a6 a7 h1 h2 h3 h4
        exact ⟨o, vs, _, _, _, _, _, _, _, X _ _ ho, e1, hv, e2, by rw [Array.getD_eq_getD_getElem?, e2]; rfl, h1, h2, h3, h4, e4⟩
      · cases e3
    · cases e
  · cases e
-- part plam
/-- a lambda of the ledger is entered -/
theorem ctr_enterL {prog : Program} {w : World} {K : Frag} {p : Program} {loose : List Str} {mean : ExcName → Option Value} {mg mb : Str → Option Value} {d u : Nat} {f c' : Addr} {oc : Obj} {vs : Array Value} {t : Tok} {args : List Value} {own : List (Addr × Obj)}
    {post : Value → List (Addr × Obj) → Prop} {name qual : Str} {params : Arguments} {body : Expr} {scope : Scope} {cl : List (Str × Addr)} {pm ctv : Value} {binds : List (Str × Value)}
    (ho : (f, kla_obj name qual params body scope cl pm c' ctv) ∈ own) (hco' : (c', oc) ∈ own) (hd1 : oc.data = .fields vs) (hd2 : vs[1]? = some (.str qual t))
    (hbind : bindArgs (kla_fn name qual params body scope cl pm (.ref c') ctv) ⟨args, []⟩ = pure binds) (hloc : ∀ y ∈ binds, scope.names.lookup y.1 = some .local)
    (h : ∀ (dp un : Nat) (gd : Option (List Code)) (fr : List Env) (base g : Heap) (L : Addr) (h₁ : Heap) (s : Shared), dp + d < recursionLimit → un + u < cLine →
      g = hid s.heap own → Below (mA dp un gd fr) base fr g → Fr g L h₁ (fun y => binds.reverse.lookup y) → News g L h₁ own → K.In g → Top p loose mean mg mb g → (∀ q ∈ own, q.1 < L) → KtsDicts (fsOf fr) g →
      wpAny (model prog w) ((mA dp un gd fr).deeper (envX qual scope L f (.ref c') cl)) (eval body (envX qual scope L f (.ref c') cl))
        (fun v s' => Lv s g post v s') noE
        { s with heap := h₁, toks := s.toks + binds.length })
    (hco : scope.isCoroutine = false) (hgen : scope.isGenerator = false) (hk : scope.kind = .function)
    (hcell : ∀ x ∈ scope.names, x.2 ≠ .cell) (hroom : 0 < d := by decide) : Ctr prog w K p loose mean mg mb d u f args own post noErr noErrN := by
  intro dp un gd fr base s R BG X T DG hd hu hown hret herr
  have hl : s.heap.NoLimit := T.nolimit.keeps fun b o e => of_hideAll _ e
  refine kla_callFunE (Nat.lt_of_le_of_lt (Nat.le_add_right dp d) hd) (hown _ ho) rfl hco hgen rfl ⟨c', oc, vs, t, rfl, hown _ hco', hd1, hd2⟩ ?_
  rw [hbind]
  refine wpAny_pure (wpAny_newFunctionEnv hcell hloc (fun h₁ hns hsb => ⟨hl.fresh _ hsb, ?_⟩) hk)
  have hk₁ : ∀ b o, s.heap.get? b = some o → h₁.get? b = some o := fun b o e => hsb.extBut b o (Nat.ne_of_lt (Heap.lt_size e)) (Heap.get?_push_of_some _ e)
  show codeAny _ _ (.expr body (envX qual scope s.heap.objs.size f (.ref c') cl)) _ _
  refine kla_codeExpr (wpAny_mono (h dp un gd fr base _ s.heap.objs.size h₁ s hd hu rfl BG ⟨hns, fun b o e => hk₁ b o (of_hideAll _ e), Nat.le_of_eq (hideAll_size _ _)⟩
    (fun q hq => ⟨hk₁ _ _ (hown q hq), Nat.ne_of_lt (Heap.lt_size (hown q hq)), hideAll_none _ (List.mem_map_of_mem hq)⟩) X T (fun q hq => Heap.lt_size (hown q hq)) DG) (fun v s' hl => ?_) fun _ _ y => y.elim)
  obtain ⟨own', hr, hp⟩ := hl.ret
  exact hret _ _ _ hr hp

noncomputable def ent (w : World) (n : String) (t : Tok) (v : Value) : DictEntry := { hash := PyData.keyHash w.params (Str.ofString n), key := .str (Str.ofString n) t, val := v }
/-- the fields of a lexer -/
noncomputable def lexD (w : World) (ln : Int) (fp : Value) (pb : Addr) (t1 t2 t3 t4 t5 t6 : Tok) : Obj :=
  dictOf [ent w "lineno" t1 (.int ln t2), ent w "instream" t3 fp, ent w "whitespace" t4 (.str (Str.ofString "\n\t\r ") t5), ent w "pushback" t6 (.ref pb)] 4
structure LamD where
  name : Str
  qual : Str
  params : Arguments
  body : Expr
  scope : Scope
  cl : List (Str × Addr)
  pm : Value
  c : Addr
  ctv : Value
noncomputable def lamO (q : LamD) : Obj := kla_obj q.name q.qual q.params q.body q.scope q.cl q.pm q.c q.ctv
/-- the signs still to come, as they lie in the list -/
noncomputable def sigs (l : List (Nat × Tok)) : List Value := (l.map fun c => Value.str ⟨#[c.1]⟩ c.2).reverse
noncomputable def lstS (l : List (Nat × Tok)) (n : Nat) : Obj := W.listOf (sigs l).toArray n
theorem sigs_cons (c : Nat × Tok) (r : List (Nat × Tok)) : sigs (c :: r) = sigs r ++ [.str ⟨#[c.1]⟩ c.2] := by simp [sigs]
theorem sigs_len (l : List (Nat × Tok)) : (sigs l).length = l.length := by simp [sigs]
/-- what the read of a lexer's stream gives -/
inductive RdC (F cl S : Addr) (q : LamD) (ocl oc : Obj) : List (Nat × Tok) → Nat → Value → List (Addr × Obj) → Prop
  | nil (n : Nat) (u : Tok) : RdC F cl S q ocl oc [] n (.str ⟨#[]⟩ u) [(F, lamO q), (q.c, oc), (cl, ocl), (S, lstS [] n)]
  | cons (c : Nat × Tok) (r : List (Nat × Tok)) (n : Nat) : RdC F cl S q ocl oc (c :: r) n (.str ⟨#[c.1]⟩ c.2) [(F, lamO q), (q.c, oc), (cl, ocl), (S, lstS r (n + 1))]
/-- what the read of a lexer's stream does -/
noncomputable def ReadC (prog : Program) (w : World) (K : Frag) (p : Program) (loose : List Str) (mean : ExcName → Option Value) (mg mb : Str → Option Value) (F cl S : Addr) (q : LamD) (ocl oc : Obj) : Prop :=
  ∀ (l : List (Nat × Tok)) (n : Nat) (t : Tok), l.length ≤ 5000 → Ctr prog w K p loose mean mg mb 2 20 F [.int 1 t] [(F, lamO q), (q.c, oc), (cl, ocl), (S, lstS l n)] (RdC F cl S q ocl oc l n) noErr noErrN
noncomputable def tabO (a b : Nat) (c : Addr) : Obj := tabObj #[rawInt a, rawInt b, .ref c]
/-- the table of the nested codes: before the first lambda, and after it -/
noncomputable def Tabs (P a b : Nat) (tl : List (Addr × Obj)) : Prop :=
  tl = [(P, tabObj #[])] ∨ ∃ c oc vs t, P < c ∧ tl = [(P, tabO a b c), (c, oc)] ∧ oc.data = .fields vs ∧ vs[1]? = some (.str (Str.ofString "_law_lexer.<locals>.<lambda>") t)
/-- a lexer: the addresses and the objects that stay -/
structure Lx where
  (x dx pb y dy F cl S : Addr)
  q : LamD
  (oc ocl ody : Obj)
  (k1 k3 k4 k5 k6 : Tok)
/-- the objects of a lexer that stay -/
noncomputable def Lx.fix (lx : Addr) (z : Lx) : List (Addr × Obj) := [(z.x, instObj lx z.dx), (z.F, lamO z.q), (z.q.c, z.oc), (z.y, instObj lx z.dy), (z.dy, z.ody), (z.cl, z.ocl)]
noncomputable def Lx.own (lx : Addr) (z : Lx) (od opb : Obj) (l : List (Nat × Tok)) (n : Nat) : List (Addr × Obj) := (z.dx, od) :: (z.pb, opb) :: (z.S, lstS l n) :: z.fix lx
/-- the fields of a lexer in line ln -/
noncomputable def Lx.od (w : World) (z : Lx) (ln : Int) (t : Tok) : Obj := lexD w ln (.ref z.y) z.pb z.k1 t z.k3 z.k4 z.k5 z.k6
noncomputable def strmD (w : World) (F : Addr) (v1 v2 v3 v4 : Value) (t1 t2 t3 t4 t5 : Tok) : Obj :=
  dictOf [ent w "lineno" t1 v1, ent w "instream" t2 v2, ent w "whitespace" t3 v3, ent w "pushback" t4 v4, ent w "read" t5 (.ref F)] 5
inductive IsStrD (w : World) (F : Addr) (o : Obj) : Prop
  | mk (v1 v2 v3 v4 : Value) (t1 t2 t3 t4 t5 : Tok) (e : o = strmD w F v1 v2 v3 v4 t1 t2 t3 t4 t5) : IsStrD w F o
inductive IsCode (ql : Str) (oc : Obj) : Prop
  | mk (vs : Array Value) (t : Tok) (h1 : oc.data = .fields vs) (h2 : vs[1]? = some (.str ql t)) : IsCode ql oc
/-- the order of a lexer's addresses (over Nat: the walk's arithmetic wants it so) -/
noncomputable def Ord (S cl dy y f c dx x pb : Nat) : Prop := (S < cl ∨ cl < S) ∧ S < dy ∧ cl < dy ∧ dy < y ∧ y < f ∧ f < dx ∧ dx < x ∧ x < pb ∧ c < f ∧ (c < S ∧ c < cl ∨ y < c)
structure Lx.Ok (prog : Program) (w : World) (K : Frag) (p : Program) (loose : List Str) (mean : ExcName → Option Value) (mg mb : Str → Option Value) (z : Lx) : Prop where
  nd : Ord z.S z.cl z.dy z.y z.F z.q.c z.dx z.x z.pb
  strD : IsStrD w z.F z.ody
  code : IsCode (Str.ofString "_law_lexer.<locals>.<lambda>") z.oc
  read : ReadC prog w K p loose mean mg mb z.F z.cl z.S z.q z.ocl z.oc
/-- a new lexer over the list S -/
inductive LexNew (prog : Program) (w : World) (K : Frag) (p : Program) (loose : List Str) (mean : ExcName → Option Value) (mg mb : Str → Option Value) (lx P a b S : Addr) (l : List (Nat × Tok)) (n : Nat) : Value → List (Addr × Obj) → Prop
  | mk (z : Lx) (t : Tok) (hS : z.S = S) (h1 : P < z.S) (h2 : P < z.cl) (h3 : P < z.q.c) (h4 : z.Ok prog w K p loose mean mg mb) :
    LexNew prog w K p loose mean mg mb lx P a b S l n (.ref z.x) ((P, tabO a b z.q.c) :: z.own lx (z.od w 1 t) (W.listOf #[] 0) l n)
theorem lex_pack {prog : Program} {w : World} {K : Frag} {p : Program} {loose : List Str} {mean : ExcName → Option Value} {mg mb : Str → Option Value} {g h : Heap} {m : Str → Option Value} {L : Addr} {s : Shared} {tk : Nat} {lx P a b S x dx pb y dy f cl : Addr} {q : LamD}
    {oc ocl ody : Obj} {l : List (Nat × Tok)} {n : Nat} {r1 r2 r3 r4 r5 r6 : Tok} (F : Fr g L h m)
    (N : News g L h [(pb, W.listOf #[] 0), (x, instObj lx dx), (dx, lexD w 1 (.ref y) pb r1 r2 r3 r4 r5 r6), (f, lamO q), (q.c, oc), (y, instObj lx dy), (dy, ody), (cl, ocl), (P, tabO a b q.c), (S, lstS l n)])
    (hn : Ord S cl dy y f q.c dx x pb) (hp : P < S) (hpl : P < cl) (hpc : P < q.c) (hs : IsStrD w f ody) (hc : IsCode (Str.ofString "_law_lexer.<locals>.<lambda>") oc) (hr : ReadC prog w K p loose mean mg mb f cl S q ocl oc) :
    Lv s g (LexNew prog w K p loose mean mg mb lx P a b S l n) (.ref x) { s with heap := h, toks := tk } :=
  ⟨L, m, _, rfl, F, news_pick N [8, 2, 0, 9, 1, 3, 4, 5, 6, 7] rfl, .mk ⟨x, dx, pb, y, dy, f, cl, S, q, oc, ocl, ody, r1, r3, r4, r5, r6⟩ r2 rfl hp hpl hpc ⟨hn, hs, hc, hr⟩⟩
/-- the lambda of a body, laid before the walk -/
theorem capture {M : Model} {A : Around} {Q : Flow → Shared → Prop} {E : Value → Shared → Prop} {s : Shared} {env : Env} {st : Stmt} {t : Expr} {ps : Arguments} {bd : Expr} {sc : Scope} {pos pos2 : Pos} {rest : List Stmt} (R : Arguments → Expr → Scope → Prop)
    (hr : R ps bd sc) (h : R ps bd sc → wpAny M A (execs (st :: .Assign [t] (.Lambda ps bd sc pos) pos2 :: rest) env) Q E s) : wpAny M A (execs (st :: .Assign [t] (.Lambda ps bd sc pos) pos2 :: rest) env) Q E s := h hr
theorem capture2 {M : Model} {A : Around} {Q : Flow → Shared → Prop} {E : Value → Shared → Prop} {s : Shared} {env : Env} {s0 st : Stmt} {t : Expr} {ps : Arguments} {bd : Expr} {sc : Scope} {pos pos2 : Pos} {rest : List Stmt} (R : Arguments → Expr → Scope → Prop)
    (hr : R ps bd sc) (h : R ps bd sc → wpAny M A (execs (s0 :: st :: .Assign [t] (.Lambda ps bd sc pos) pos2 :: rest) env) Q E s) : wpAny M A (execs (s0 :: st :: .Assign [t] (.Lambda ps bd sc pos) pos2 :: rest) env) Q E s := h hr
section
variable {z : Lx} {lx : Addr} {od opb : Obj} {l : List (Nat × Tok)} {n : Nat} {rest : List (Addr × Obj)}
theorem Lx.mem_x : (z.x, instObj lx z.dx) ∈ z.own lx od opb l n := .tail _ (.tail _ (.tail _ (.head _)))
theorem Lx.mem_dx : (z.dx, od) ∈ z.own lx od opb l n := .head _
theorem Lx.mem_pb : (z.pb, opb) ∈ z.own lx od opb l n := .tail _ (.head _)
theorem Lx.mem_xa : (z.x, instObj lx z.dx) ∈ z.own lx od opb l n ++ rest := List.mem_append_left _ Lx.mem_x
theorem Lx.mem_dxa : (z.dx, od) ∈ z.own lx od opb l n ++ rest := List.mem_append_left _ Lx.mem_dx
theorem Lx.mem_pba : (z.pb, opb) ∈ z.own lx od opb l n ++ rest := List.mem_append_left _ Lx.mem_pb
end
theorem news_swap {g h : Heap} {L : Addr} {a b : List (Addr × Obj)} (N : News g L h (a ++ b)) : News g L h (b ++ a) := fun q hq => N q ((List.mem_append.mp hq).elim (List.mem_append_right a) (List.mem_append_left b))
theorem news_fst {g h : Heap} {L : Addr} {a b : List (Addr × Obj)} (N : News g L h (a ++ b)) : News g L h a := fun q hq => N q (List.mem_append_left b hq)
/-- what the stream's read changes is none of the rest -/
theorem Ord.rd {S cl dy y f c dx x pb : Nat} (nd : Ord S cl dy y f c dx x pb) {a : Nat} (ha : f < a ∨ a = y ∨ a = dy) : a ∉ [f, c, cl, S] := by
  unfold Ord at nd
  obtain ⟨-, b1, b2, b3, b4, -, -, -, b8, b9⟩ := nd
  have k1 := Nat.lt_trans b3 b4
  have hle : f < a → a ∉ [f, c, cl, S] := fun h hm => by
    simp only [List.mem_cons, List.not_mem_nil, or_false] at hm
    rcases hm with rfl | rfl | rfl | rfl
    · exact Nat.lt_irrefl _ h
    · exact Nat.lt_irrefl _ (Nat.lt_trans h b8)
    · exact Nat.lt_irrefl _ (Nat.lt_trans h (Nat.lt_trans b2 k1))
    · exact Nat.lt_irrefl _ (Nat.lt_trans h (Nat.lt_trans b1 k1))
  rcases ha with h | rfl | rfl
  · exact hle h
  · intro hm
    simp only [List.mem_cons, List.not_mem_nil, or_false] at hm
    rcases hm with rfl | rfl | rfl | rfl
    · exact Nat.lt_irrefl _ b4
    · rcases b9 with h | h
      · exact Nat.lt_irrefl _ (Nat.lt_trans h.1 (Nat.lt_trans b1 b3))
      · exact Nat.lt_irrefl _ h
    · exact Nat.lt_irrefl _ (Nat.lt_trans b2 b3)
    · exact Nat.lt_irrefl _ (Nat.lt_trans b1 b3)
  · intro hm
    simp only [List.mem_cons, List.not_mem_nil, or_false] at hm
    rcases hm with rfl | rfl | rfl | rfl
    · exact Nat.lt_irrefl _ k1
    · rcases b9 with h | h
      · exact Nat.lt_irrefl _ (Nat.lt_trans h.1 b1)
      · exact Nat.lt_irrefl _ (Nat.lt_trans h b3)
    · exact Nat.lt_irrefl _ b2
    · exact Nat.lt_irrefl _ b1
/-- what lies behind a lexer, or ahead of it, is none of its objects -/
theorem Lx.part {z : Lx} {lx : Addr} {od opb : Obj} {l : List (Nat × Tok)} {n : Nat} {a : Nat} (nd : Ord z.S z.cl z.dy z.y z.F z.q.c z.dx z.x z.pb) (h : @LT.lt Nat _ z.pb a ∨ @LT.lt Nat _ a z.S ∧ @LT.lt Nat _ a z.cl ∧ @LT.lt Nat _ a z.q.c) : (a : Addr) ∉ (z.own lx od opb l n).map (·.1) := by
  have k : ∀ b ∈ ([z.dx, z.pb, z.S, z.x, z.F, z.q.c, z.y, z.dy, z.cl] : List Nat), @LE.le Nat _ b z.pb ∧ (@LE.le Nat _ z.S b ∨ @LE.le Nat _ z.cl b ∨ @LE.le Nat _ z.q.c b) := by
    unfold Ord at nd
    obtain ⟨-, b1, b2, b3, b4, b5, b6, b7, b8, -⟩ := nd
    have c7 := Nat.le_of_lt b7
    have c6 := Nat.le_trans (Nat.le_of_lt b6) c7
    have c5 := Nat.le_trans (Nat.le_of_lt b5) c6
    have c4 := Nat.le_trans (Nat.le_of_lt b4) c5
    have c3 := Nat.le_trans (Nat.le_of_lt b3) c4
    have d1 := Nat.le_of_lt b1
    have d2 := Nat.le_trans d1 (Nat.le_of_lt b3)
    have d3 := Nat.le_trans d2 (Nat.le_of_lt b4)
    have d4 := Nat.le_trans d3 (Nat.le_of_lt b5)
    have d5 := Nat.le_trans d4 (Nat.le_of_lt b6)
    intro b hb
    simp only [List.mem_cons, List.not_mem_nil, or_false] at hb
    rcases hb with rfl | rfl | rfl | rfl | rfl | rfl | rfl | rfl | rfl
    · exact ⟨c6, .inl d4⟩
    · exact ⟨Nat.le_refl _, .inl (Nat.le_trans d5 c7)⟩
    · exact ⟨Nat.le_trans d1 c3, .inl (Nat.le_refl _)⟩
    · exact ⟨c7, .inl d5⟩
    · exact ⟨c5, .inl d3⟩
    · exact ⟨Nat.le_trans (Nat.le_of_lt b8) c5, .inr (.inr (Nat.le_refl _))⟩
    · exact ⟨c4, .inl d2⟩
    · exact ⟨c3, .inl d1⟩
    · exact ⟨Nat.le_trans (Nat.le_of_lt b2) c3, .inr (.inl (Nat.le_refl _))⟩
  intro hm
  obtain ⟨k1, k2⟩ := k a hm
  rcases h with h | ⟨h1, h2, h3⟩
  · exact Nat.lt_irrefl _ (Nat.lt_of_lt_of_le h k1)
  · rcases k2 with k2 | k2 | k2
    · exact Nat.lt_irrefl _ (Nat.lt_of_lt_of_le h1 k2)
    · exact Nat.lt_irrefl _ (Nat.lt_of_lt_of_le h2 k2)
    · exact Nat.lt_irrefl _ (Nat.lt_of_lt_of_le h3 k2)
-- part pnext
section
variable {prog : Program} {w : World} {A : Around} {E : Value → Shared → Prop} {s : Shared}
open Builtin
theorem slot_callit_next : Slot "callable_iterator" "__next__" "callable_iterator.__next__" :=
  .of (owner := "callable_iterator") (n := "__next__") (by rw [typeLookup_type, builtinLookup_eq_fast]; kernel_rfl) (by decide +kernel) (by decide +kernel) (by decide +kernel)
    (by first | exact .inl (by decide +kernel) | exact .inr (by decide +kernel)) (by rw [isSubtype_type]; kernel_rfl)
theorem entry_callit_next : entryFor table "callable_iterator.__next__" = some Builtin.«callable_iterator.__next__» := entryFor_of_tree (by kernel_rfl)
theorem args_callit_next (a : Value) : argsOk "callable_iterator.__next__" ⟨[a], []⟩ := by unfold argsOk; kernel_rfl
noncomputable def callO (m : Addr) (t : Tok) : Obj := { cls := .type "callable_iterator", data := .fields #[.ref m, .str ⟨#[]⟩ t, .bool false] }
noncomputable def endO : Obj := { cls := .type "callable_iterator", data := .fields #[.none, .none, .bool true] }
theorem borrows {m f : Addr} {self : Value} {of : Obj} {fd : FuncData} {Q : Bool → Shared → Prop} (hm : s.heap.get? m = some (methodObj (.ref f) self)) (hf : s.heap.get? f = some of) (hfd : of.data = .func fd) (h : Q true s) :
    wpAny (model prog w) A (borrowsExactly (.ref m)) Q E s := by
  unfold borrowsExactly
  refine wpAny_bind (wpAny_load hm ?_)
  show wpAny _ _ (do match (← load f).data with | .func _ => pure true | _ => pure false) _ _ _
  refine wpAny_bind (wpAny_load hf ?_)
  rw [hfd]
  exact wpAny_pure h
theorem borrowed_call {f : Value} {Q : Value → Shared → Prop}
    (hc : codeAny (model prog w) A (.call f ⟨[], []⟩) (fun r s' => match r with | .ok (.ret v) => Q v s' | .ok _ => False | .error e => E e s') s) : wpAny (model prog w) A (callBorrowed f) Q E s := fun Γ p hΓ => by
  show wpCode (model prog w) (Γ.enter (.call f ⟨[], []⟩) none p) (fun r s' => Sem.wp (model prog w) Γ _ _ _ p s') p s
  refine wpCode_mono (fun r s' h => ?_) (hc _ p rfl (hΓ.enter _ none p (by intro x; cases x)))
  cases r with
  | error e => exact h
  | ok fl => cases fl <;> first | exact h | exact h.elim
theorem next_call {I m f : Addr} {t : Tok} {self : Value} {of : Obj} {fd : FuncData} {Q : Option Value → Shared → Prop} (hh : A.handled = none)
    (hI : s.heap.get? I = some (callO m t)) (hm : s.heap.get? m = some (methodObj (.ref f) self)) (hf : s.heap.get? f = some of) (hfd : of.data = .func fd)
    (h : codeAny (model prog w) A.in1 (.call (.ref m) ⟨[], []⟩) (fun rr s₁ => ∃ x u, rr = .ok (.ret (.str x u)) ∧ s₁.heap.get? I = some (callO m t) ∧ s₁.heap.get? m = some (methodObj (.ref f) self) ∧ s₁.heap.get? f = some of ∧
      (x = ⟨#[]⟩ → ∀ h', Heap.ExtBut I s₁.heap h' → h'.get? I = some endO → Q none { s₁ with heap := h' }) ∧ (x ≠ ⟨#[]⟩ → Q (some (.str x u)) s₁)) s) :
    wpAny (model prog w) A (pyNext (.ref I)) Q E s := by
  unfold pyNext
  refine wpAny_bind (wpAny_attempt (wpAny_callSpecial?_slot (name := Str.ofString "__next__") (T := "callable_iterator") ⟨_, hI, rfl⟩ slot_callit_next
    (wpAny_call_entry slot_callit_next ⟨_, hI, rfl⟩ entry_callit_next ?_ (args_callit_next _))))
  show wpAny _ _ (field (.ref I) 2 >>= _) _ _ s
  refine wpAny_bind (wpAny_field hI rfl (x := .bool false) rfl ?_)
  show wpAny _ _ (if (Value.bool false == Value.bool true) = true then _ else _) _ _ s
  rw [if_neg (show ¬ ((Value.bool false == Value.bool true) = true) from Bool.false_ne_true)]
  show wpAny _ _ (field (.ref I) 0 >>= _) _ _ s
  refine wpAny_bind (wpAny_field hI rfl (x := .ref m) rfl ?_)
  refine wpAny_bind (wpAny_attempt ?_)
  unfold callOutOfASlot
  refine wpAny_bind (borrows hm hf hfd ?_)
  rw [if_pos rfl]
  refine borrowed_call (codeAny_mono h fun rr s₁ hr => ?_)
  obtain ⟨x, u, rfl, hI₁, hm₁, hf₁, hend, hgo⟩ := hr
  show wpAny _ _ (field (.ref I) 2 >>= _) _ _ s₁
  refine wpAny_bind (wpAny_field hI₁ rfl (x := .bool false) rfl ?_)
  show wpAny _ _ (if (Value.bool false == Value.bool true) = true then _ else _) _ _ s₁
  rw [if_neg (show ¬ ((Value.bool false == Value.bool true) = true) from Bool.false_ne_true)]
  show wpAny _ _ (field (.ref I) 1 >>= _) _ _ s₁
  refine wpAny_bind (wpAny_field hI₁ rfl (x := .str ⟨#[]⟩ t) rfl ?_)
  refine wpAny_bind (wpAny_holding (wpAny_eqBool_str ?_))
  by_cases hx : x = ⟨#[]⟩
  · rw [decide_eq_true hx.symm, Bool.not_true, if_neg Bool.false_ne_true]
    refine wpAny_bind (wpAny_rule (wpAny_bind ?_))
    show wpAny _ _ (field (.ref I) 0 >>= _) _ _ s₁
    refine wpAny_bind (wpAny_field hI₁ rfl (x := .ref m) rfl ?_)
    refine wpAny_bind (m := slotLetsGo _ _ _) ?_
    unfold slotLetsGo
    refine wpAny_bind (borrows hm₁ hf₁ hfd ?_)
    rw [if_pos rfl]
    refine wpAny_pure ?_
    have sf : ∀ {h : Heap} {o : Obj} {vs : Array Value} {i : Nat} {x : Value}, h.get? I = some o → o.data = .fields vs →
        (h.update I (Obj.mapFields (·.setIfInBounds i x))).get? I = some (o.mapFields (·.setIfInBounds i x)) := fun ho hd => Heap.get?_update_self _ ho (Obj.isFreed_of_fields (Obj.data_mapFields hd _))
    have d1 := Obj.data_mapFields (o := callO m t) (vs := #[.ref m, .str ⟨#[]⟩ t, .bool false]) rfl (·.setIfInBounds 0 .none)
    have d2 := Obj.data_mapFields d1 (·.setIfInBounds 1 .none)
    have g1 := sf (i := 0) (x := .none) hI₁ rfl
    have g2 := sf (i := 1) (x := .none) g1 d1
    refine wpAny_bind (wpAny_setField hI₁ rfl (by show 0 < 3; decide) ?_)
    refine wpAny_bind (wpAny_setField (s := { s₁ with heap := _ }) g1 d1 (by simp) ?_)
    refine wpAny_setField (s := { s₁ with heap := _ }) g2 d2 (by simp) ?_
    show wpAny _ _ (newExc (.type "StopIteration") [] >>= _) _ _ _
    refine wpAny_bind ?_
    simp only [newExc, newTuple]
    refine wpAny_bind (wpAny_newObj_type ?_ (by size_fits))
    refine wpAny_bind (m := firstArgMember _ _) (wpAny_of_eq (a := Value.none) (by first | rfl | (simp only [firstArgMember]; rfl)) ?_)
    refine wpAny_newObj_type ?_ (by size_fits)
    simp only [raiseNew]
    refine wpAny_bind (wpAny_handled ?_)
    rw [show A.in1.handled = none from hh]
    refine wpAny_bind (wpAny_pure (wpAny_throw ?_))
    refine wpAny_bind (wpAny_isInstance (T := "StopIteration") (b := true) ⟨_, Heap.get?_push_size _ rfl, rfl⟩ isSubtype_stop ?_)
    have g3 := sf (i := 2) (x := .bool true) g2 d2
    refine wpAny_pure (hend hx _ ?_ ?_)
    rotate_left
    · exact Heap.get?_push_of_some _ (Heap.get?_push_of_some _ g3)
    refine Heap.ExtBut.push (Heap.ExtBut.push (fun b o hb e => ?_) _) _
    have u : ∀ {h : Heap} {f : Obj → Obj}, (h.update I f).get? b = h.get? b := fun {h f} => (Heap.SameBut.update (h := h) (a := I) (f := f)).2 b hb
    rw [u, u, u]; exact e
  · rw [decide_eq_false (Ne.symm hx), Bool.not_false, if_pos rfl]
    exact wpAny_pure ⟨_, rfl, wpAny_pure (hgo hx)⟩
theorem next_ended {I : Addr} {Q : Option Value → Shared → Prop} (hh : A.handled = none) (hI : s.heap.get? I = some endO) (h : ∀ h', (∀ b o, s.heap.get? b = some o → h'.get? b = some o) → Q none { s with heap := h' }) :
    wpAny (model prog w) A (pyNext (.ref I)) Q E s := by
  unfold pyNext
  refine wpAny_bind (wpAny_attempt (wpAny_callSpecial?_slot (name := Str.ofString "__next__") (T := "callable_iterator") ⟨_, hI, rfl⟩ slot_callit_next
    (wpAny_call_entry slot_callit_next ⟨_, hI, rfl⟩ entry_callit_next ?_ (args_callit_next _))))
  show wpAny _ _ (field (.ref I) 2 >>= _) _ _ s
  refine wpAny_bind (wpAny_field hI rfl (x := .bool true) rfl ?_)
  show wpAny _ _ (if (Value.bool true == Value.bool true) = true then _ else _) _ _ s
  rw [if_pos (show ((Value.bool true == Value.bool true) = true) from by decide)]
  refine wpAny_bind (wpAny_rule (wpAny_bind ?_))
  show wpAny _ _ (newExc (.type "StopIteration") [] >>= _) _ _ _
  refine wpAny_bind ?_
  simp only [newExc, newTuple]
  refine wpAny_bind (wpAny_newObj_type ?_ (by size_fits))
  refine wpAny_bind (m := firstArgMember _ _) (wpAny_of_eq (a := Value.none) (by first | rfl | (simp only [firstArgMember]; rfl)) ?_)
  refine wpAny_newObj_type ?_ (by size_fits)
  simp only [raiseNew]
  refine wpAny_bind (wpAny_handled ?_)
  rw [show A.in1.handled = none from hh]
  refine wpAny_bind (wpAny_pure (wpAny_throw ?_))
  refine wpAny_bind (wpAny_isInstance (T := "StopIteration") (b := true) ⟨_, Heap.get?_push_size _ rfl, rfl⟩ isSubtype_stop ?_)
  exact wpAny_pure (h _ fun b o e => Heap.get?_push_of_some _ (Heap.get?_push_of_some _ e))
theorem method_calls : typeLookup (.type "method") "__call__" = pure (some (.builtin "method.__call__")) := by rw [typeLookup_type, builtinLookup_eq_fast]; kernel_rfl
theorem entry_iter2 : entryFor table "iter" = some Builtin.«iter» := entryFor_of_tree (by kernel_rfl)
theorem args_iter2 (a b : Value) : argsOk "iter" ⟨[a, b], []⟩ := by unfold argsOk; kernel_rfl
theorem iter_call {m : Addr} {t : Tok} {f self : Value} {Q : Value → Shared → Prop} (hm : s.heap.get? m = some (methodObj f self))
    (h : Q (.ref s.heap.objs.size) { s with heap := s.heap.push (callO m t) }) : wpAny (model prog w) A (call (.builtin "iter") [.ref m, .str ⟨#[]⟩ t]) Q E s := by
  refine call_function_entry (by decide +kernel) (by decide +kernel) entry_iter2 (args_iter2 _ _) ?_
  unfold Builtin.«iter»
  refine wpAny_bind (m := someArgs _ _ _ _) (wpAny_of_eq (a := [.ref m, .str ⟨#[]⟩ t]) (by rfl) ?_)
  dsimp only
  refine wpAny_bind (wpAny_specialOf (T := "method") (r := some (.builtin "method.__call__")) ⟨_, hm, rfl⟩ method_calls ?_)
  rw [if_neg (show ¬ ((some (Value.builtin "method.__call__")).isNone = true) from Bool.false_ne_true)]
  refine wpAny_bind (wpAny_rule (wpAny_bind ?_))
  unfold newFields
  refine wpAny_newObj_type (wpAny_pure ⟨_, rfl, h⟩) (by size_fits)
theorem slot_callit_iter : Slot "callable_iterator" "__iter__" "callable_iterator.__iter__" :=
  .of (owner := "callable_iterator") (n := "__iter__") (by rw [typeLookup_type, builtinLookup_eq_fast]; kernel_rfl) (by decide +kernel) (by decide +kernel) (by decide +kernel)
    (by first | exact .inl (by decide +kernel) | exact .inr (by decide +kernel)) (by rw [isSubtype_type]; kernel_rfl)
theorem entry_callit_iter : entryFor table "callable_iterator.__iter__" = some Builtin.«dict_keyiterator.__iter__» :=
  entryFor_alias (id' := "dict_keyiterator.__iter__") (by kernel_rfl) rfl (by decide +kernel) (by kernel_rfl)
theorem args_callit_iter (a : Value) : argsOk "callable_iterator.__iter__" ⟨[a], []⟩ := by unfold argsOk; kernel_rfl
theorem iter_self {I m : Addr} {t : Tok} {Q : Value → Shared → Prop} (hI : s.heap.get? I = some (callO m t)) (h : Q (.ref I) s) : wpAny (model prog w) A (pyIter (.ref I)) Q E s := by
  have hT : s.TypeIs (.ref I) "callable_iterator" := ⟨_, hI, rfl⟩
  refine wpAny_pyIter_slot hT slot_callit_iter (wpAny_call_entry slot_callit_iter hT entry_callit_iter ?_ (args_callit_iter _))
  exact wpAny_pure ⟨_, rfl, "callable_iterator", _, hT, slot_callit_next.lookup, h⟩
end
-- part pread
section
variable {prog : Program} {w : World} {K : Frag} {p : Program} {loose : List Str} {mean : ExcName → Option Value} {mg mb : Str → Option Value} {d u : Nat} {f : Addr} {own : List (Addr × Obj)} {post : Value → List (Addr × Obj) → Prop}
/-- the next of an iterator over a method that has a contract -/
theorem next_read {x : Addr} (C : Ctr prog w K p loose mean mg mb d u f [.ref x] own post noErr noErrN) (hpost : ∀ v own', post v own' → ∃ y t', v = .str y t')
    {A₀ : Around} {base h₀ : Heap} {outer : List Env} {env : Env} {L : Addr} {mm : Str → Option Value} {s : Shared} {rest : List (Addr × Obj)} {dp un : Nat} {gd : Option (List Code)} {I m : Addr} {t : Tok} {oc : Value} {od : Option Addr} {fd : FuncData} {osl : Array (Option Value)}
    {Q : Option Value → Shared → Prop} {E : Value → Shared → Prop}
    (B : Below A₀ base outer h₀) (F : Fr h₀ L s.heap mm) (X : K.In h₀) (T : Top p loose mean mg mb h₀) (D : KtsDicts (fsOf outer) h₀) (N : News h₀ L s.heap (own ++ ((I, callO m t) :: (m, methodObj (.ref f) (.ref x)) :: rest))) (hf : env.frame = some L) (hke : env.scope.kind = .function)
    (ho : K.lookup f = some ⟨oc, od, .func fd, osl⟩)
    (hd : dp + d < recursionLimit) (hu : un + 1 + u < cLine) (hap' : ∀ q ∈ ((I, callO m t) :: (m, methodObj (.ref f) (.ref x)) :: rest), q.1 ∉ own.map (·.1)) (hIr : ∀ q ∈ ((m, methodObj (.ref f) (.ref x)) :: rest), q.1 ≠ I)
    (item : ∀ y v own' h' tk', post (.str y v) own' → y ≠ ⟨#[]⟩ → Fr h₀ L h' mm → News h₀ L h' (own' ++ ((I, callO m t) :: (m, methodObj (.ref f) (.ref x)) :: rest)) → Q (some (.str y v)) { s with heap := h', toks := tk' })
    (done : ∀ v own' h' tk', post (.str ⟨#[]⟩ v) own' → Fr h₀ L h' mm → News h₀ L h' (own' ++ ((I, endO) :: (m, methodObj (.ref f) (.ref x)) :: rest)) → Q none { s with heap := h', toks := tk' }) :
    wpAny (model prog w) (mA dp un gd (env :: outer)) (pyNext (.ref I)) Q E s := by
  have hIn := N (I, callO m t) (List.mem_append_right _ (.head _))
  have hmn := N (m, methodObj (.ref f) (.ref x)) (List.mem_append_right _ (.tail _ (.head _)))
  refine next_call (of := ⟨oc, od, .func fd, osl⟩) (fd := fd) rfl hIn.1 hmn.1 (F.keep _ _ (X _ _ ho)) rfl ?_
  show codeAny _ (mA dp (un + 1) gd (env :: outer)) _ _ _
  refine method_call hmn.1 ?_
  refine ctr_code C B F X T D N hf hke hd hu hap' ?_
  intro v own' h' tk' hp F' N' hn
  obtain ⟨y, t', rfl⟩ := hpost v own' hp
  have hI' := N' (I, callO m t) (List.mem_append_right _ (.head _))
  have hm' := N' (m, methodObj (.ref f) (.ref x)) (List.mem_append_right _ (.tail _ (.head _)))
  refine ⟨y, t', rfl, hI'.1, hm'.1, F'.keep _ _ (X _ _ ho), ?_, fun hy => item y t' own' h' tk' hp hy F' N'⟩
  rintro rfl h2 hs hend
  refine done t' own' h2 tk' hp (fr_same F' hs hI'.2.1 hI'.2.2) fun q hq => ?_
  rcases List.mem_append.mp hq with hq | hq
  · have hne : q.1 ≠ I := by
      rcases hn q hq with e | e
      · exact fun e2 => hap' (I, callO m t) (.head _) (e2 ▸ e)
      · exact e (I, callO m t) (.head _)
    have z := N' q (List.mem_append_left _ hq)
    exact ⟨hs q.1 q.2 hne z.1, z.2⟩
  · rcases List.mem_cons.mp hq with rfl | hq
    · exact ⟨hend, hI'.2⟩
    · have z := N' q (List.mem_append_right _ (.tail _ hq))
      exact ⟨hs q.1 q.2 (hIr q hq) z.1, z.2⟩
theorem iter_callN {A : Around} {h₀ : Heap} {L m : Addr} {mm : Str → Option Value} {s : Shared} {news : List (Addr × Obj)} {t : Tok} {g self : Value} {Q E : Value → Shared → Prop} (F : Fr h₀ L s.heap mm) (N : News h₀ L s.heap news) (hm : (m, methodObj g self) ∈ news)
    (h : ∀ I h' t0, Fr h₀ L h' mm → News h₀ L h' ((I, callO m t0) :: news) → (∀ q ∈ news, q.1 < I) → Q (.ref I) { s with heap := h' }) : wpAny (model prog w) A (call (.builtin "iter") [.ref m, .str (Str.ofString "") t]) Q E s :=
  iter_call (N _ hm).1 (h _ _ t (F.push _) (N.push F _) fun q hq => Heap.lt_size (N q hq).1)
end
-- part pcomp
open PyProof.Rows.LCg in
inductive SrcT (prog : Program) (w : World) (A : Around) (h₀ : Heap) (L : Addr) (m : Str → Option Value) (env : Env) (elt : Expr) (x : Str) (scope : Scope) (cl : List (Str × Addr)) (Q : Value → Shared → Prop) : Value → Shared → Prop
  | mk (y : Str) (t : Tok) (news : List (Addr × Obj)) (s₁ : Shared) (hh : A.handled = none) (F : Fr h₀ L s₁.heap m) (N : News h₀ L s₁.heap news) (hsz : y.cps.size ≤ sizeLine)
      (h : ∀ g, CompRest prog w A h₀ L m env elt x scope cl { s₁ with heap := g } (fun _ => True) (SignAt y) (FinE h₀ L m { s₁ with heap := g } Q) y.cps.size 0 [] news) : SrcT prog w A h₀ L m env elt x scope cl Q (.str y t) s₁
/-- what an element of a comprehension leaves -/
inductive EltEnd (h₀ : Heap) (L : Addr) (m : Str → Option Value) (s : Shared) (l : List (Addr × Obj)) (R : Value → Prop) : Value → Shared → Prop
  | mk {y : Value} (h : Heap) (tk : Nat) (F : Fr h₀ L h m) (N : News h₀ L h l) (r : R y) : EltEnd h₀ L m s l R y { s with heap := h, toks := tk }
section
open PyProof.Rows.LCg
variable {prog : Program} {w : World} {A : Around} {E : Value → Shared → Prop} {s : Shared} {h₀ : Heap} {L : Addr} {m : Str → Option Value} {env : Env}
/-- a comprehension over a text -/
theorem comp_text {elt iter : Expr} {x : Str} {px : Pos} {scope : Scope} {cl : List (Str × Addr)} {pos : Pos} {Q : Value → Shared → Prop} (_F₀ : Fr h₀ L s.heap m)
    (hclos : closureFor scope env = pure cl) (hcell : ∀ y ∈ scope.names, y.2 ≠ .cell) (hkind : scope.kind = .function)
    (hnames : ∀ y ∈ scope.names, y.2 = .local → scope.names.lookup y.1 = some .local) (hx : scope.names.lookup x = some .local)
    (h : wpAny (model prog w) A (eval iter env) (SrcT prog w A h₀ L m env elt x scope cl Q) E s)
    (hs : ∀ x, foldedSetIterable iter env x = pure x := by intro _; rfl) :
    wpAny (model prog w) A (eval (.ListComp elt [⟨.Name x px, iter, [], 0⟩] scope pos) env) Q E s := by
  rw [eval_ListComp]
  refine wpAny_comprehension_free (use := none) rfl hs hclos hkind hnames (wpAny_mono h (fun xv s₁ h₁ => ?_) fun _ _ e => e)
  obtain ⟨y, t, news, s₁, hh, F, N, hsz, R⟩ := h₁
  have go : ∀ (cls : String) (W : Walks prog w A s₁.heap.objs.size [s₁.heap.objs.size] [s₁.heap.objs.size] y.cps.size (SignAt y) (fun i h => h.IsStrIter s₁.heap.objs.size cls y t i)) (g : Heap) (hg : g.IsStrIter s₁.heap.objs.size cls y t 0)
      (up : ∀ b o, s₁.heap.get? b = some o → g.get? b = some o) (hsize : g.objs.size = s₁.heap.objs.size + 1),
      wpAny (model prog w) A (newList []) (fun acc s₃ => wpAny (model prog w) A (newFunctionEnv scope env.globals cl [] env.qual none .none (some env)) (fun cenv s₄ =>
      codeAny (model prog w) A (.compStart (.ListComp elt [⟨.Name x px, iter, [], 0⟩] scope pos) 0 (.ref s₁.heap.objs.size) acc { cenv with scope := relabel scope env }) (compPost (model prog w) A E none Q acc cenv.locals) s₄) E s₃) E { s₁ with heap := g } := fun cls W g hg up hsize =>
    block_U (elt := elt) (iter := iter) (px := px) (pos := pos) (E := E) (RR := fun acc C => compPost (model prog w) A E none Q acc C) (s₂ := { s₁ with heap := g }) W hsz (fun i h st => by obtain ⟨o, e, _⟩ := st; exact ⟨o, e⟩)
      (fun i h h' o nw st e e' _ _ _ => by obtain ⟨o', q, r⟩ := st; rw [e] at q; cases q; exact ⟨o, e', r⟩) hcell hkind hx hg
      (fun b hb => by rw [List.mem_singleton.mp hb]; show s₁.heap.objs.size < g.objs.size; rw [hsize]; exact Nat.lt_succ_self _)
      (F.keeps up) (N.grown up) (Nat.ne_of_lt F.ns.lt) (next_is_new F) (fun p hp => Nat.ne_of_lt (Heap.lt_size (N p hp).1)) trivial (R g)
      (fun D C h tk m' ys news' F' N' o1 hn hC₀ hD₀ hCL hDL hCD offC fin => ⟨m', hn, fun h'' hs'' => fin D h'' tk (F'.change hs'' hCL hC₀) (fun p hp => by
        refine ⟨hs''.extBut _ _ ?_ (N' p hp).1, (N' p hp).2⟩
        rcases List.mem_cons.mp hp with rfl | hp
        · exact Ne.symm hCD
        · exact offC p hp) o1⟩)
  cases ha : y.cps.all (· < 128)
  · exact wpAny_pyIter_wide ha (go _ (Walks.strWide hh _ y t) _ ⟨_, Heap.get?_push_size _ rfl, rfl, rfl⟩ (fun _ _ e => Heap.get?_push_of_some _ e) (Heap.size_push ..))
  · exact wpAny_pyIter_ascii ha (go _ (Walks.strAscii hh _ y t) _ ⟨_, Heap.get?_push_size _ rfl, rfl, rfl⟩ (fun _ _ e => Heap.get?_push_of_some _ e) (Heap.size_push ..))
/-- each turn of a comprehension gives one value, and changes nothing -/
theorem rest_map {elt : Expr} {x : Str} {scope : Scope} {cl : List (Str × Addr)} {S : List (Addr × Obj) → Prop} {P : Nat → Value → Prop} {Fin : List Value → List (Addr × Obj) → Prop} {news : List (Addr × Obj)} {n : Nat} (Rel : Nat → Value → Prop)
    (turn : ∀ i v ys I oI C oC D m₂ h tk (E' : Value → Shared → Prop), i < n → P i v → NsObj oC m₂ → m₂ x = some v → Fr h₀ L h m → News h₀ L h ((I, oI) :: (C, oC) :: (D, lst ys) :: news) → Off3 I C D news → ((@Ne Nat I C) ∧ (@Ne Nat I D) ∧ (@Ne Nat C D)) →
      wpAny (model prog w) A (eval elt (compEnvC scope cl C env)) (EltEnd h₀ L m { s with heap := h, toks := tk } ((I, oI) :: (C, oC) :: (D, lst ys) :: news) (Rel i)) E' { s with heap := h, toks := tk }) (hS : S news)
    (fin : ∀ ys, ys.length = n → (∀ i v, ys[i]? = some v → Rel i v) → Fin ys news) : CompRest prog w A h₀ L m env elt x scope cl s S P Fin n 0 [] news := by
  have key : ∀ (j i : Nat) (ys : List Value), i + j = n → ys.length = i → (∀ k v, ys[k]? = some v → Rel k v) → CompRest prog w A h₀ L m env elt x scope cl s S P Fin j i ys news := by
    intro j
    induction j with
    | zero => exact fun i ys hi hl hy => CompRest.zero (fin ys (by omega) hy)
    | succ j ih =>
      intro i ys hi hl hy
      refine CompRest.succ ?_
      intro v I oI C oC D m₂ h tk E' hv hC hx F N off ne
      refine wpAny_mono (turn i v ys I oI C oC D m₂ h tk E' (by omega) hv hC hx F N off ne) (fun y s₂ hq => ?_) fun _ _ e => e
      obtain ⟨h', tk', F', N', hr⟩ := hq
      refine ⟨h', tk', news, rfl, F', N', off, hS, ih (i + 1) _ (by omega) (by rw [List.length_append, hl]; rfl) ?_⟩
      intro k v hk
      rcases snoc_at hk with ⟨_, h1⟩ | ⟨h1, rfl⟩
      · exact hy k v h1
      · exact (h1.trans hl) ▸ hr
  exact key n 0 [] (by omega) rfl (fun k v h => by simp at h)
end
theorem list_strN {prog : Program} {w : World} {A : Around} {E : Value → Shared → Prop} {s : Shared} {h₀ : Heap} {L : Addr} {m : Str → Option Value} {x : Str} {t : Tok} {news : List (Addr × Obj)} {Q : Value → Shared → Prop} (hh : A.handled = none) (F : Fr h₀ L s.heap m) (N : News h₀ L s.heap news) (hsz : x.length ≤ sizeLine)
    (h : ∀ D cap h' tk (ys : List Value), Fr h₀ L h' m → News h₀ L h' ((D, W.listOf ys.toArray cap) :: news) → (∀ q ∈ news, q.1 < D) → CarriedAll ys ((signs x).map .str) → Q (.ref D) { s with heap := h', toks := tk }) :
    wpAny (model prog w) A (call (.type "list") [.str x t]) Q E s := by
  refine list_strD hh F N ?_ hsz
  intro h4 tk4 zs F4 N4 k4 e4 il4 np4 ca4
  have hne := np4.ne_locals F4
  obtain ⟨⟨cap, hD2⟩, hne4⟩ := np4
  refine h _ cap h4 tk4 zs F4 (fun q hq => ?_) (fun q hq => Heap.lt_size (N q hq).1) ca4
  rcases List.mem_cons.mp hq with rfl | hq
  · exact ⟨hD2, hne, e4⟩
  · exact N4 q hq
-- part pcompa
section
open PyProof.Rows.LCg
variable {prog : Program} {w : World} {A : Around} {E : Value → Shared → Prop} {s : Shared} {h₀ : Heap} {L : Addr} {m : Str → Option Value} {env : Env}
inductive SrcTA (prog : Program) (w : World) (A : Around) (h₀ : Heap) (L : Addr) (m : Str → Option Value) (env : Env) (elt : Expr) (x : Str) (scope : Scope) (cl : List (Str × Addr)) (yn : Str) (Q : Flow → Shared → Prop) : Value → Shared → Prop
  | mk (y : Str) (t : Tok) (news : List (Addr × Obj)) (s₁ : Shared) (hh : A.handled = none) (F : Fr h₀ L s₁.heap m) (N : News h₀ L s₁.heap news) (hsz : y.cps.size ≤ sizeLine)
      (h : ∀ g, CompRest prog w A h₀ L m env elt x scope cl { s₁ with heap := g } (fun _ => True) (SignAt y) (FinA h₀ L m { s₁ with heap := g } yn Q) y.cps.size 0 [] news) : SrcTA prog w A h₀ L m env elt x scope cl yn Q (.str y t) s₁
/-- a name bound to a comprehension over a text -/
theorem assign_comp_text {elt iter : Expr} {x y : Str} {px py : Pos} {scope : Scope} {cl : List (Str × Addr)} {pos spos : Pos} {Q : Flow → Shared → Prop} (_F₀ : Fr h₀ L s.heap m) (hLe : env.locals = L)
    (hsw : swapsWith (.ListComp elt [⟨.Name x px, iter, [], 0⟩] scope pos) (some (.Name y py)) spos.line env = pure true)
    (hclos : closureFor scope env = pure cl) (hcell : ∀ z ∈ scope.names, z.2 ≠ .cell) (hkind : scope.kind = .function)
    (hnames : ∀ z ∈ scope.names, z.2 = .local → scope.names.lookup z.1 = some .local) (hx : scope.names.lookup x = some .local)
    (hy : env.kindOf y = some .local) (hp : (env.scope.kind == .class || (env.scope.kind == .module && env.locals != env.globals)) = false)
    (h : wpAny (model prog w) A (eval iter env) (SrcTA prog w A h₀ L m env elt x scope cl y Q) E s)
    (hs : ∀ x, foldedSetIterable iter env x = pure x := by intro _; rfl) :
    wpAny (model prog w) A (exec (.Assign [.Name y py] (.ListComp elt [⟨.Name x px, iter, [], 0⟩] scope pos) spos) env) Q E s := by
  subst hLe
  rw [exec_Assign_Name_used _ _ _ _ hsw]
  refine wpAny_bind (wpAny_standAt (wpAny_bind ?_))
  show wpAny _ A (do let _ ← comprehension (.ListComp elt [⟨.Name x px, iter, [], 0⟩] scope pos) scope env _ (newList []) false (eval iter env) (some (assign (.Name y py) env))) _ _ s
  refine wpAny_bind (wpAny_mono (wpAny_comprehension_free (use := some (assign (.Name y py) env)) (Q := fun _ s' => Q .next s') rfl hs hclos hkind hnames
    (wpAny_mono h (fun xv s₁ h₁ => ?_) fun _ _ e => e)) (fun _ s' hq => wpAny_pure (wpAny_pure hq)) fun _ _ e => e)
  obtain ⟨z, t, news, s₁, hh, F, N, hsz, R⟩ := h₁
  have go : ∀ (cls : String) (W : Walks prog w A s₁.heap.objs.size [s₁.heap.objs.size] [s₁.heap.objs.size] z.cps.size (SignAt z) (fun i h => h.IsStrIter s₁.heap.objs.size cls z t i)) (g : Heap) (hg : g.IsStrIter s₁.heap.objs.size cls z t 0)
      (up : ∀ b o, s₁.heap.get? b = some o → g.get? b = some o) (hsize : g.objs.size = s₁.heap.objs.size + 1),
      wpAny (model prog w) A (newList []) (fun acc s₃ => wpAny (model prog w) A (newFunctionEnv scope env.globals cl [] env.qual none .none (some env)) (fun cenv s₄ =>
      codeAny (model prog w) A (.compStart (.ListComp elt [⟨.Name x px, iter, [], 0⟩] scope pos) 0 (.ref s₁.heap.objs.size) acc { cenv with scope := relabel scope env }) (compPost (model prog w) A E (some (assign (.Name y py) env)) (fun _ s' => Q .next s') acc cenv.locals) s₄) E s₃) E { s₁ with heap := g } := fun cls W g hg up hsize =>
    block_U (elt := elt) (iter := iter) (px := px) (pos := pos) (E := E) (RR := fun acc C => compPost (model prog w) A E (some (assign (.Name y py) env)) (fun _ s' => Q .next s') acc C) (s₂ := { s₁ with heap := g }) W hsz (fun i h st => by obtain ⟨o, e, _⟩ := st; exact ⟨o, e⟩)
      (fun i h h' o nw st e e' _ _ _ => by obtain ⟨o', q, r⟩ := st; rw [e] at q; cases q; exact ⟨o, e', r⟩) hcell hkind hx hg
      (fun b hb => by rw [List.mem_singleton.mp hb]; show s₁.heap.objs.size < g.objs.size; rw [hsize]; exact Nat.lt_succ_self _)
      (F.keeps up) (N.grown up) (Nat.ne_of_lt F.ns.lt) (next_is_new F) (fun p hp => Nat.ne_of_lt (Heap.lt_size (N p hp).1)) trivial (R g) (by
        intro D C h' tk m' ys news' F' N' o1 hn hC₀ hD₀ hCL hDL hCD offC fin
        show wpAny _ A (assign (.Name y py) env (.ref D)) _ _ _
        refine wpAny_assign_Name (wpAny_storeName_local hy F'.ns (fun h₂ hn₂ hs₂ => ?_) hp)
        have hL₀ : h₀.get? env.locals = none := Heap.get?_none_of_le F'.above
        have F₂ : Fr h₀ env.locals h₂ (fun z => if z = y then some (.ref D) else m z) := ⟨hn₂, fun b o e => hs₂.extBut b o (fun q => by rw [q, hL₀] at e; cases e) (F'.keep b o e), F'.above⟩
        refine ⟨m', hn.sameBut hs₂ hCL, fun h'' hs'' => fin D h'' _ (F₂.change hs'' hCL hC₀) (fun p hp => ?_) o1⟩
        have z : h₂.get? p.1 = some p.2 := hs₂.extBut _ _ (N' p hp).2.1 (N' p hp).1
        refine ⟨hs''.extBut _ _ ?_ z, (N' p hp).2⟩
        rcases List.mem_cons.mp hp with rfl | hp
        · exact Ne.symm hCD
        · exact offC p hp)
  cases ha : z.cps.all (· < 128)
  · exact wpAny_pyIter_wide ha (go _ (Walks.strWide hh _ z t) _ ⟨_, Heap.get?_push_size _ rfl, rfl, rfl⟩ (fun _ _ e => Heap.get?_push_of_some _ e) (Heap.size_push ..))
  · exact wpAny_pyIter_ascii ha (go _ (Walks.strAscii hh _ z t) _ ⟨_, Heap.get?_push_size _ rfl, rfl, rfl⟩ (fun _ _ e => Heap.get?_push_of_some _ e) (Heap.size_push ..))
end
-- part pcomp2
section
open PyProof.Rows.LCg PySem.W
variable {prog : Program} {w : World} {A : Around} {E : Value → Shared → Prop} {s : Shared} {h₀ : Heap} {L : Addr} {m : Str → Option Value} {env : Env}
theorem get_push_old {h : Heap} {o : Obj} : ∀ b p, h.get? b = some p → (h.push o).get? b = some p := fun _ _ e => Heap.get?_push_of_some _ e
theorem none_of_size {h₀ h : Heap} (k : ∀ b o, h₀.get? b = some o → h.get? b = some o) {a : Addr} (ha : h.objs.size ≤ a) : h₀.get? a = none := by
  cases e : h₀.get? a with
  | none => rfl
  | some o => exact absurd (Heap.lt_size (k _ _ e)) (Nat.not_lt.mpr ha)
/-- a comprehension over a list of pairs, with a test: test and element read only -/
noncomputable def PairTurn (prog : Program) (w : World) (A : Around) (h₀ : Heap) (L : Addr) (m : Str → Option Value) (env : Env) (elt c : Expr) (x x₂ : Str) (scope : Scope) (cl : List (Str × Addr)) (s : Shared) (E : Value → Shared → Prop) (test : Value → Value → Bool) (pick : Value → Value → Value) (prs : List (Value × Value)) (news : List (Addr × Obj)) : Prop :=
  ∀ v₁ v₂ C oC m₂ h tk, (v₁, v₂) ∈ prs → NsObj oC m₂ → m₂ x = some v₁ → m₂ x₂ = some v₂ → Fr h₀ L h m → News h₀ L h ((C, oC) :: news) →
    wpAny (model prog w) A (isTrue c (compEnvC scope cl C env) (eval c (compEnvC scope cl C env))) (fun ok s₃ => ok = test v₁ v₂ ∧ ∃ tk', s₃ = { s with heap := h, toks := tk' } ∧
      (ok = true → wpAny (model prog w) A (eval elt (compEnvC scope cl C env)) (fun y s₄ => y = pick v₁ v₂ ∧ ∃ tk', s₄ = { s with heap := h, toks := tk' }) E s₃)) E { s with heap := h, toks := tk }
theorem news_but {h h' : Heap} {news : List (Addr × Obj)} {x : Addr} (N : News h₀ L h news) (hs : ∀ b o, b ≠ x → h.get? b = some o → h'.get? b = some o) (off : ∀ q ∈ news, q.1 ≠ x) : News h₀ L h' news := fun q hq => ⟨hs _ _ (off q hq) (N q hq).1, (N q hq).2⟩
theorem news_cons {h : Heap} {news : List (Addr × Obj)} {p : Addr × Obj} (z : h.get? p.1 = some p.2 ∧ p.1 ≠ L ∧ h₀.get? p.1 = none) (N : News h₀ L h news) : News h₀ L h (p :: news) := fun q hq => by
  cases hq with
  | head => exact z
  | tail _ hq => exact N q hq
theorem news_tl {h : Heap} {news : List (Addr × Obj)} {p : Addr × Obj} (N : News h₀ L h (p :: news)) : News h₀ L h news := fun q hq => N q (.tail _ hq)
noncomputable def picked (test : Value → Value → Bool) (pick : Value → Value → Value) (prs : List (Value × Value)) : List Value := (prs.filter fun p => test p.1 p.2).map fun p => pick p.1 p.2
theorem picked_on {test : Value → Value → Bool} {pick : Value → Value → Value} {prs : List (Value × Value)} {i : Nat} {q : Value × Value} (hq : prs[i]? = some q) (h : test q.1 q.2 = true) : picked test pick (prs.take (i + 1)) = picked test pick (prs.take i) ++ [pick q.1 q.2] := by
  rw [picked, List.take_add_one, hq, Option.toList_some, List.filter_append, List.map_append, List.filter_cons, h]; rfl
theorem picked_off {test : Value → Value → Bool} {pick : Value → Value → Value} {prs : List (Value × Value)} {i : Nat} {q : Value × Value} (hq : prs[i]? = some q) (h : test q.1 q.2 = false) : picked test pick (prs.take (i + 1)) = picked test pick (prs.take i) := by
  rw [picked, List.take_add_one, hq, Option.toList_some, List.filter_append, List.map_append, List.filter_cons, h]; exact List.append_nil _
theorem picked_len (test : Value → Value → Bool) (pick : Value → Value → Value) (prs : List (Value × Value)) (i : Nat) : (picked test pick (prs.take i)).length ≤ prs.length := by
  rw [picked, List.length_map]
  exact Nat.le_trans (List.length_filter_le _ _) (by rw [List.length_take]; exact Nat.min_le_right ..)
inductive PairInv (h₀ : Heap) (L : Addr) (m : Str → Option Value) (s : Shared) (n : Nat) (prs : List (Value × Value)) (test : Value → Value → Bool) (pick : Value → Value → Value) (ax I C D : Addr) (news : List (Addr × Obj)) : Nat → Shared → Prop
  | mk (h : Heap) (tk i : Nat) (oI oC : Obj) (m' : Str → Option Value) (hi : i ≤ n) (hI : IsLI ax i oI) (hC : NsObj oC m') (F : Fr h₀ L h m) (N : News h₀ L h ((I, oI) :: (C, oC) :: (D, lst (picked test pick (prs.take i))) :: news)) :
    PairInv h₀ L m s n prs test pick ax I C D news (n + 1 - i) { s with heap := h, toks := tk }
theorem pair_less {i n : Nat} (h : i < n) : n + 1 - (i + 1) < n + 1 - i := Nat.sub_lt_sub_left (Nat.lt_succ_of_lt h) (Nat.lt_succ_self i)
theorem pair_loop {elt iter c : Expr} {x x₂ : Str} {px px₂ tp : Pos} {kk} {scope : Scope} {cl : List (Str × Addr)} {pos : Pos} {R : Result → Shared → Prop} {ax I C D : Addr} {its : Array Value} {nc : Nat} {prs : List (Value × Value)} {news : List (Addr × Obj)} {test : Value → Value → Bool} {pick : Value → Value → Value}
    (hh : A.handled = none) (hkind : scope.kind = .function) (hx : scope.names.lookup x = some .local) (hx₂ : scope.names.lookup x₂ = some .local) (hxx : x ≠ x₂) (hsz : its.size ≤ sizeLine)
    (hax : (ax, W.listOf its nc) ∈ news) (hlen : prs.length = its.size) (hpr : ∀ (i : Nat) (v : Value) (q : Value × Value), its[i]? = some v → prs[i]? = some q → ∃ a n, v = .ref a ∧ (a, W.listOf #[q.1, q.2] n) ∈ news)
    (hIC : I ≠ C) (hID : I ≠ D) (hCD : C ≠ D) (off : ∀ p ∈ news, p.1 ≠ I ∧ p.1 ≠ C ∧ p.1 ≠ D) {oI oC : Obj} {m' : Str → Option Value} (hI : IsLI ax 0 oI) (hC : NsObj oC m')
    (F : Fr h₀ L s.heap m) (N : News h₀ L s.heap ((I, oI) :: (C, oC) :: (D, lst []) :: news))
    (turn : PairTurn prog w A h₀ L m env elt c x x₂ scope cl s (notedBy (model prog w) A (compEnvC scope cl C env) fun e s' => R (.error e) s') test pick prs news)
    (fin : ∀ h tk oC m', NsObj oC m' → Fr h₀ L h m → News h₀ L h ((C, oC) :: (D, lst ((prs.filter fun p => test p.1 p.2).map fun p => pick p.1 p.2)) :: news) → R (.ok .next) { s with heap := h, toks := tk }) :
    codeAny (model prog w) A (.compLoop (.ListComp elt [⟨.Tuple [.Name x px, .Name x₂ px₂] kk tp, iter, [c], 0⟩] scope pos) 0 (.ref I) (.ref D) (compEnvC scope cl C env)) R s := by
  refine kct_loop (fun k s' => PairInv h₀ L m s its.size prs test pick ax I C D news k s') ?_ (its.size + 1) (.mk s.heap s.toks 0 oI oC m' (Nat.zero_le _) hI hC F N)
  clear hI hC F N oI oC m'
  rintro k s' ⟨h, tk, i, oI, oC, m', hi, hI, hC, F, N⟩
  have zI := N _ (.head _)
  have zC := N _ (.tail _ (.head _))
  have zD := N _ (.tail _ (.tail _ (.head _)))
  have Nn := news_tl (news_tl (news_tl N))
  clear N
  have hit : h.IsListIter I ax i := ⟨oI, zI.1, hI⟩
  have hl : h.IsList ax its := ⟨_, (Nn _ hax).1, rfl, nc, rfl⟩
  cases hv : its[i]? with
  | none =>
    have hii : i = prs.length := hlen ▸ Nat.le_antisymm hi (by simpa using hv)
    refine wpAny_pyNext_list_end hh hit hl hv fun h' hs' => ?_
    subst hii
    rw [List.take_length] at zD
    exact fin h' _ oC m' hC (fr_same F hs' zI.2.1 zI.2.2) (news_cons (p := (C, oC)) ⟨hs' _ _ (Ne.symm hIC) zC.1, zC.2⟩ (news_cons (p := (D, _)) ⟨hs' _ _ (Ne.symm hID) zD.1, zD.2⟩ (news_but Nn hs' fun q hq => (off q hq).1)))
  | some v =>
    have hlt : i < its.size := (Array.getElem?_eq_some_iff.mp hv).1
    have hlp : i < prs.length := hlen ▸ hlt
    have hq := List.getElem?_eq_getElem hlp
    generalize prs[i] = q at hq
    obtain ⟨a, n, rfl, ha⟩ := hpr i v q hv hq
    refine wpAny_pyNext_list_item hit hl hv fun h' hit' hs' => ?_
    clear hit hl hv
    obtain ⟨oI', hoI', hI'⟩ := hit'
    refine wpAny_letOwnedTupleGo_listiter ⟨oI', hoI', hI'⟩ ?_
    have ex1 := hs'.extBut
    have F1 := fr_same F ex1 zI.2.1 zI.2.2
    have N1 := news_cons (p := (I, oI')) ⟨hoI', zI.2⟩ (news_cons (p := (C, oC)) ⟨ex1 _ _ (Ne.symm hIC) zC.1, zC.2⟩ (news_cons (p := (D, _)) ⟨ex1 _ _ (Ne.symm hID) zD.1, zD.2⟩ (news_but Nn ex1 fun q hq => (off q hq).1)))
    clear hs' ex1 zI zC zD Nn F hI hoI'
    refine kun_list (s := { s with heap := h', toks := tk }) F1 N1 ⟨_, (N1 _ (.tail _ (.tail _ (.tail _ ha)))).1, rfl, n, rfl⟩ hh rfl rfl fun h5 F5 N5 => ?_
    clear F1 N1
    have zI := N5 _ (.head _)
    have zC := N5 _ (.tail _ (.head _))
    have zD := N5 _ (.tail _ (.tail _ (.head _)))
    have Nn := news_tl (news_tl (news_tl N5))
    clear N5
    refine assignInOrder_cons (wpAny_assign_Name (wpAny_storeName_local (lookup_relabel_local hx) (hC.ns zC.1) (fun h₆ hn₆ hs₆ => ?_) (by simp [compEnvC, relabel, hkind])))
    refine assignInOrder_cons (wpAny_assign_Name (wpAny_storeName_local (lookup_relabel_local hx₂) hn₆ (fun h₃ hn₃ hs₃ => ?_) (by simp [compEnvC, relabel, hkind])))
    refine assignInOrder_nil ?_
    obtain ⟨oC', heC, hoC⟩ := ns_obj hn₃
    have F3 : Fr h₀ L h₃ m := (F5.change hs₆ zC.2.1 zC.2.2).change hs₃ zC.2.1 zC.2.2
    have ex : ∀ b o, b ≠ C → h5.get? b = some o → h₃.get? b = some o := fun b o hb e => hs₃.extBut b o hb (hs₆.extBut b o hb e)
    have zI3 := And.intro (ex _ _ hIC zI.1) zI.2
    have zD3 := And.intro (ex _ _ (Ne.symm hCD) zD.1) zD.2
    have zC3 := And.intro heC zC.2
    have Nn3 := news_but Nn ex fun q hq => (off q hq).2.1
    clear hn₆ hs₆ hn₃ hs₃ ex zI zD zC Nn F5 hC heC
    refine wpAny_mono (turn q.1 q.2 C oC' _ h₃ _ (List.mem_of_getElem? hq) hoC (by simp [hxx]) (by simp) F3 (news_cons (p := (C, oC')) zC3 Nn3)) (fun ok s₃ h₃' => ?_) fun _ _ e => e
    obtain ⟨hok, tk₃, rfl, hgo⟩ := h₃'
    cases ok with
    | false =>
      rw [if_neg Bool.false_ne_true]
      exact ⟨its.size + 1 - (i + 1), pair_less hlt, .mk h₃ tk₃ (i + 1) oI' oC' _ hlt hI' hoC F3 (news_cons (p := (I, oI')) zI3 (news_cons (p := (C, oC')) zC3 (news_cons (p := (D, _)) (picked_off hq hok.symm ▸ zD3) Nn3)))⟩
    | true =>
      rw [if_pos rfl]
      refine wpAny_mono (hgo rfl) (fun y s₄ h₄ => ?_) fun _ _ e => e
      obtain ⟨rfl, tk₄, rfl⟩ := h₄
      refine append_at (hsz := by rw [List.size_toArray]; exact Nat.le_trans (hlen ▸ picked_len test pick prs i) hsz) zD3.1 fun h₅ hs₅ hD₅ => ?_
      have ex := hs₅.extBut
      exact ⟨its.size + 1 - (i + 1), pair_less hlt, .mk h₅ tk₄ (i + 1) oI' oC' _ hlt hI' hoC (F3.change hs₅ zD3.2.1 zD3.2.2) (news_cons (p := (I, oI')) ⟨ex _ _ hID zI3.1, zI3.2⟩ (news_cons (p := (C, oC')) ⟨ex _ _ hCD zC3.1, zC3.2⟩ (news_cons (p := (D, _)) ⟨hD₅.trans (congrArg some ((lst_snoc _ _).trans (congrArg lst (picked_on hq hok.symm).symm))), zD3.2⟩ (news_but Nn3 ex fun q hq => (off q hq).2.2))))⟩
end
section
open PyProof.Rows.LCg PySem.W
variable {prog : Program} {w : World} {A : Around} {E : Value → Shared → Prop} {s : Shared} {h₀ : Heap} {L : Addr} {m : Str → Option Value} {env : Env}
inductive SrcP (prog : Program) (w : World) (A : Around) (h₀ : Heap) (L : Addr) (m : Str → Option Value) (env : Env) (elt c : Expr) (x x₂ : Str) (scope : Scope) (cl : List (Str × Addr)) (Q : Value → Shared → Prop) : Value → Shared → Prop
  | mk (ax : Addr) (its : Array Value) (nc : Nat) (news : List (Addr × Obj)) (prs : List (Value × Value)) (test : Value → Value → Bool) (pick : Value → Value → Value) (s₁ : Shared) (hh : A.handled = none) (F : Fr h₀ L s₁.heap m) (N : News h₀ L s₁.heap news) (hax : (ax, W.listOf its nc) ∈ news) (hsz : its.size ≤ sizeLine)
    (hlen : prs.length = its.size) (hpr : ∀ (i : Nat) (v : Value) (q : Value × Value), its[i]? = some v → prs[i]? = some q → ∃ a n, v = .ref a ∧ (a, W.listOf #[q.1, q.2] n) ∈ news) (turn : ∀ s₂ E', PairTurn prog w A h₀ L m env elt c x x₂ scope cl s₂ E' test pick prs news)
    (fin : ∀ D h tk, Fr h₀ L h m → News h₀ L h ((D, lst ((prs.filter fun p => test p.1 p.2).map fun p => pick p.1 p.2)) :: news) → (∀ q ∈ news, q.1 < D) → Q (.ref D) { s₁ with heap := h, toks := tk }) : SrcP prog w A h₀ L m env elt c x x₂ scope cl Q (.ref ax) s₁
theorem comp_pair {elt iter c : Expr} {x x₂ : Str} {px px₂ tp : Pos} {kk} {scope : Scope} {cl : List (Str × Addr)} {pos : Pos} {Q : Value → Shared → Prop} (_F₀ : Fr h₀ L s.heap m)
    (hclos : closureFor scope env = pure cl) (hcell : ∀ y ∈ scope.names, y.2 ≠ .cell) (hkind : scope.kind = .function)
    (hnames : ∀ y ∈ scope.names, y.2 = .local → scope.names.lookup y.1 = some .local) (hx : scope.names.lookup x = some .local) (hx₂ : scope.names.lookup x₂ = some .local) (hxx : x ≠ x₂)
    (h : wpAny (model prog w) A (eval iter env) (SrcP prog w A h₀ L m env elt c x x₂ scope cl Q) E s)
    (hs : ∀ x, foldedSetIterable iter env x = pure x := by intro _; rfl) :
    wpAny (model prog w) A (eval (.ListComp elt [⟨.Tuple [.Name x px, .Name x₂ px₂] kk tp, iter, [c], 0⟩] scope pos) env) Q E s := by
  rw [eval_ListComp]
  refine wpAny_comprehension_free (use := none) rfl hs hclos hkind hnames (wpAny_mono h (fun xv s₁ h₁ => ?_) fun _ _ e => e)
  obtain ⟨ax, its, nc, news, prs, test, pick, s₁, hh, F, N, hax, hsz, hlen, hpr, turn, fin⟩ := h₁
  refine wpAny_pyIter_list ⟨_, (N _ hax).1, rfl, nc, rfl⟩ ?_
  have F1 := F.push (h₀ := h₀) { cls := .type "list_iterator", data := .fields #[.ref ax, .int 0 0] }
  have N1 := N.push F { cls := .type "list_iterator", data := .fields #[.ref ax, .int 0 0] }
  have lI : ∀ q ∈ news, q.1 < s₁.heap.objs.size := fun q hq => Heap.lt_size (N q hq).1
  generalize hg1 : s₁.heap.push { cls := .type "list_iterator", data := .fields #[.ref ax, .int 0 0] } = g1 at F1 N1
  have hg1s : g1.objs.size = s₁.heap.objs.size + 1 := by rw [← hg1, Heap.size_push]
  generalize hI : s₁.heap.objs.size = I at N1 lI hg1s ⊢
  refine wpAny_newObj_type (wpAny_newFunctionEnv hcell (by intro y hy; simp at hy) (fun h₁ hns₁ hsb₁ => ?_) hkind)
  dsimp only at hns₁ hsb₁ ⊢
  have F2 := F1.push (h₀ := h₀) { cls := .type "list", dict := none, data := .seq ([] : List Value).toArray }
  have N2 := N1.push F1 { cls := .type "list", dict := none, data := .seq ([] : List Value).toArray }
  have hg2s : (g1.push { cls := .type "list", dict := none, data := .seq ([] : List Value).toArray }).objs.size = I + 2 := by rw [Heap.size_push, hg1s]
  generalize g1.push { cls := .type "list", dict := none, data := .seq ([] : List Value).toArray } = g2 at hns₁ hsb₁ F2 N2 hg2s ⊢
  have hD : g1.objs.size = I + 1 := hg1s
  rw [hD] at N2 ⊢
  rw [hg2s] at hns₁ hsb₁ ⊢
  have hL : L < I + 2 := by
    have := F2.ns.lt
    rw [hg2s] at this
    exact this
  have old : ∀ b o, g2.get? b = some o → h₁.get? b = some o := fun b o e => hsb₁.extBut b o (Nat.ne_of_lt (by have := Heap.lt_size e; rw [hg2s] at this; exact this)) (Heap.get?_push_of_some _ e)
  have hC₀ : h₀.get? (I + 2) = none := none_of_size F2.keep (Nat.le_of_eq hg2s)
  have F3 : Fr h₀ L h₁ m := F2.keeps old
  obtain ⟨oC, heC, hoC⟩ := ns_obj hns₁
  have N3 : News h₀ L h₁ ((I, { cls := .type "list_iterator", data := .fields #[.ref ax, .int 0 0] }) :: (I + 2, oC) :: (I + 1, lst []) :: news) := fun q hq => by
    rcases List.mem_cons.mp hq with rfl | hq
    · have z := N2 _ (List.mem_cons_of_mem _ (List.mem_cons_self ..)); exact ⟨old _ _ z.1, z.2⟩
    · rcases List.mem_cons.mp hq with rfl | hq
      · exact ⟨heC, Ne.symm (Nat.ne_of_lt hL), hC₀⟩
      · rcases List.mem_cons.mp hq with rfl | hq
        · have z := N2 _ (List.mem_cons_self ..); exact ⟨old _ _ z.1, z.2⟩
        · have z := N2 _ (List.mem_cons_of_mem _ (List.mem_cons_of_mem _ hq)); exact ⟨old _ _ z.1, z.2⟩
  have off : ∀ p ∈ news, p.1 ≠ I ∧ p.1 ≠ I + 2 ∧ p.1 ≠ I + 1 := fun p hp => by
    have := show @LT.lt Nat _ p.1 I from lI p hp
    exact ⟨Nat.ne_of_lt this, Nat.ne_of_lt (Nat.lt_succ_of_lt (Nat.lt_succ_of_lt this)), Nat.ne_of_lt (Nat.lt_succ_of_lt this)⟩
  have loop := pair_loop (elt := elt) (iter := iter) (c := c) (px := px) (px₂ := px₂) (tp := tp) (kk := kk) (pos := pos) (env := env) (s := { s₁ with heap := h₁, toks := s₁.toks + ([] : List (Str × Value)).length }) (R := compPost (model prog w) A E none Q (.ref (I + 1)) (I + 2)) hh hkind hx hx₂ hxx hsz hax hlen hpr
    (show I ≠ I + 2 from Nat.ne_of_lt (Nat.lt_add_of_pos_right (by decide))) (show I ≠ I + 1 from Nat.ne_of_lt (Nat.lt_succ_self _)) (show I + 2 ≠ I + 1 from Nat.ne_of_gt (Nat.lt_succ_self _)) off (⟨rfl, rfl⟩ : IsLI ax 0 _) hoC F3 N3 (turn _ _) (fun h tk oC m' hC F N => ⟨m', hC.ns (N _ (List.mem_cons_self ..)).1, fun h'' hs'' => by
      have zC := N _ (List.mem_cons_self ..)
      refine fin (I + 1) h'' tk (F.change hs'' zC.2.1 zC.2.2) (fun q hq => ?_) (fun q hq => Nat.lt_succ_of_lt (lI q hq))
      refine ⟨hs''.extBut _ _ ?_ (N q (List.mem_cons_of_mem _ hq)).1, (N q (List.mem_cons_of_mem _ hq)).2⟩
      rcases List.mem_cons.mp hq with rfl | hq
      · exact Nat.ne_of_lt (Nat.lt_succ_self _)
      · exact (off q hq).2.1⟩)
  exact codeAny_compStart_list loop (wpAny_pyIter_listiter (l := ax) (i := 0) ⟨_, (N3 _ (List.mem_cons_self ..)).1, rfl, rfl⟩ loop)
end
section
variable {prog : Program} {w : World} {A : Around} {E : Value → Shared → Prop} {s : Shared} {env : Env} {h₀ : Heap} {Q : Flow → Shared → Prop}
/-- the turns of a for with a target of several names -/
noncomputable def ForTurn2 (prog : Program) (w : World) (A : Around) (h₀ : Heap) (env : Env) (tgt : Expr) (body : List Stmt) (Q : Flow → Shared → Prop) (s : Shared) (Inv : Nat → (Str → Option Value) → List (Addr × Obj) → Prop) (it : Value) : Prop :=
  ∀ n m₁ news₁ h tk, Inv n m₁ news₁ → Fr h₀ env.locals h m₁ → News h₀ env.locals h news₁ →
    wpAny (model prog w) A (pyNext it) (fun r s₃ => match r with
      | none => Q .next s₃
      | some v => wpAny (model prog w) A (letOwnedTupleGo tgt it v) (fun _ s₃' => wpAny (model prog w) A (assign tgt env v) (fun _ s₄ => wpAny (model prog w) A (execs body env) (TurnEnd h₀ env.locals Inv Q s n) noE s₄) noE s₃') noE s₃) noE { s with heap := h, toks := tk }
inductive ForStart2 (prog : Program) (w : World) (A : Around) (h₀ : Heap) (env : Env) (tgt : Expr) (body : List Stmt) (Q : Flow → Shared → Prop) (it : Value) (s₂ : Shared) : Prop
  | mk (Inv : Nat → (Str → Option Value) → List (Addr × Obj) → Prop) (n : Nat) (m₁ : Str → Option Value) (news₁ : List (Addr × Obj)) (i : Inv n m₁ news₁) (F : Fr h₀ env.locals s₂.heap m₁) (N : News h₀ env.locals s₂.heap news₁) (turn : ForTurn2 prog w A h₀ env tgt body Q s₂ Inv it)
theorem for_inv2 {tgt : Expr} {iter : Expr} {body : List Stmt} {pos : Pos}
    (h : wpAny (model prog w) A (eval iter env) (fun xv s₁ => wpAny (model prog w) A (pyIter xv) (fun it s₂ => ForStart2 prog w A h₀ env tgt body Q it s₂) noE s₁) noE s)
    (hs : ∀ x, foldedSetIterable iter env x = pure x := by intro _; rfl) :
    wpAny (model prog w) A (exec (.For tgt iter body [] pos) env) Q E s := by
  have key : wpAny (model prog w) A (exec (.For tgt iter body [] pos) env) Q noE s := by
    refine wpAny_For (wpAny_mono h (fun xv s₁ h₁ => wpAny_mono h₁ (fun it s₂ h₂ => ?_) fun _ _ x => x.elim) fun _ _ x => x.elim) hs
    obtain ⟨Inv, n, m₁, news₁, hI, F₁, N₁, turn⟩ := h₂
    refine codeAny_forLoop_any (fun n s' => LoopSt h₀ env.locals Inv s₂ n s') ?_ n (.mk m₁ news₁ s₂.heap s₂.toks hI F₁ N₁)
    rintro n s' ⟨m₁, news₁, h, tk, hI, F₁, N₁⟩
    refine wpAny_mono (turn n m₁ news₁ h tk hI F₁ N₁) (fun r s₃ h₃ => ?_) fun _ _ x => x.elim
    cases r with
    | none => exact wpAny_execs_nil h₃
    | some v =>
      refine wpAny_mono h₃ (fun _ s₃' h₃' => wpAny_mono h₃' (fun _ s₄ h₄ => wpAny_mono h₄ (fun f s₅ h₅ => ?_) fun _ _ x => x.elim) fun _ _ x => x.elim) fun _ _ x => x.elim
      cases f with
      | next => exact h₅.less
      | cont => exact h₅.less
      | brk => exact h₅
      | ret v => exact h₅
  exact wpAny_mono key (fun _ _ x => x) fun _ _ x => x.elim
theorem iter_listN {l : Addr} {its : Array Value} {nc : Nat} {m : Str → Option Value} {news : List (Addr × Obj)} {L : Addr} {Q : Value → Shared → Prop} {E : Value → Shared → Prop}
    (F : Fr h₀ L s.heap m) (N : News h₀ L s.heap news) (hl : (l, W.listOf its nc) ∈ news)
    (h : ∀ I oI h', IsLI l 0 oI → Fr h₀ L h' m → News h₀ L h' ((I, oI) :: news) → (∀ q ∈ news, q.1 < I) → Q (.ref I) { s with heap := h' }) : wpAny (model prog w) A (pyIter (.ref l)) Q E s :=
  iter_list F N ⟨_, (N _ hl).1, rfl, nc, rfl⟩ fun I oI h' hI F' N' l1 _ => h I oI h' hI F' N' l1
/-- the next pair of a list of pairs, and its two values in their names -/
theorem next_pair {I l : Addr} {oI : Obj} {i : Nat} {m : Str → Option Value} {its : Array Value} {nc : Nat} {news : List (Addr × Obj)} {elts : List Expr} {kk} {tp : Pos} {Q : Option Value → Shared → Prop} {E : Value → Shared → Prop} {q : Value × Value} {a : Addr} {na : Nat} {K : Unit → Shared → Prop} {E2 : Value → Shared → Prop} (hh : A.handled = none)
    (F : Fr h₀ env.locals s.heap m) (N : News h₀ env.locals s.heap ((I, oI) :: news)) (hI : IsLI l i oI) (hl : (l, W.listOf its nc) ∈ news) (hne : ∀ q ∈ news, q.1 ≠ I)
    (hv : its[i]? = some (.ref a)) (ha : (a, W.listOf #[q.1, q.2] na) ∈ news) (hn : (assignEach elts env).length = 2) (hstar : (assignEach elts env).findIdx? (·.1) = none)
    (hQ : ∀ s', wpAny (model prog w) A (letOwnedTupleGo (.Tuple elts kk tp) (.ref I) (.ref a)) (fun _ s₃ => wpAny (model prog w) A (assign (.Tuple elts kk tp) env (.ref a)) K E2 s₃) E2 s' → Q (some (.ref a)) s')
    (h : ∀ h' oI', IsLI l (i + 1) oI' → Fr h₀ env.locals h' m → News h₀ env.locals h' ((I, oI') :: news) → wpAny (model prog w) A (assignInOrder ((assignEach elts env).map (·.2)) [q.1, q.2]) K E2 { s with heap := h' }) :
    wpAny (model prog w) A (pyNext (.ref I)) Q E s := by
  refine next_list hh F N hI ⟨_, (N _ (List.mem_cons_of_mem _ hl)).1, rfl, nc, rfl⟩ hne ?_ ?_
  · intro v h' oI' hv' hI' F' N'
    rw [hv] at hv'
    cases hv'
    refine hQ _ ?_
    refine wpAny_letOwnedTupleGo_listiter (l := l) (i := i + 1) ⟨oI', (N' _ (List.mem_cons_self ..)).1, hI'⟩ ?_
    have hla : h'.IsList a #[q.1, q.2] := ⟨_, (N' _ (List.mem_cons_of_mem _ ha)).1, rfl, na, rfl⟩
    exact kun_list (s := { s with heap := h' }) F' N' hla hh hn hstar fun h5 F5 N5 => h h5 oI' hI' F5 N5
  · intro h' hv'
    rw [hv] at hv'; cases hv'
end
-- part pown
section
variable {M : Model} {A : Around} {E : Value → Shared → Prop} {s : Shared}
/-- a new exception meets its first frame -/
theorem first_look {base : Heap} {env : Env} {outer : List Env} {L e : Addr} {oe : Obj} {vs : Array Value} {a0 : Value} {Q : Unit → Shared → Prop}
    (hfr : A.frames = some (env :: outer)) (hl : s.heap.FunFrames base (env :: outer)) (hf : env.frame = some L)
    (he : s.heap.get? e = some oe) (hkb : base.StaysIn s.heap) (hen : base.get? e = none) (hd : oe.data = .fields vs) (h1 : vs[1]? = some .none) (h0 : vs[0]? = some a0)
    (h : ∀ h', Heap.HeldW base (env :: outer) e oe.cls a0 L h' → s.heap.UpToSlots h' → Q () { s with heap := h' }) : wpAny M A (noteFrame (.ref e) env) Q E s := by
  unfold noteFrame
  simp only [hf]
  refine wpAny_bind (wpAny_field he hd h1 ?_)
  rw [if_neg (by decide)]
  exact wpAny_entryW hfr hl hf he hkb hen hd (Array.getElem?_eq_some_iff.mp h1).1 h0 fun h' ⟨k1, k2, k3, k4⟩ => h h' ⟨k1, hen, k2, k3⟩ k4
end
section
variable {prog : Program} {w : World} {A₀ : Around} {E : Value → Shared → Prop} {s' : Shared} {base g h : Heap} {outer : List Env} {L a e : Addr} {m : Str → Option Value} {name : Str} {scope : Scope} {cd : Value} {X : String}
  {hs : List ExceptHandler} {Q : Flow → Shared → Prop} {news : List (Addr × Obj)}
theorem own_look (hx : Heap.NewExc h s'.heap e X) (F : Fr g L h m) (N : News g L h news) (K : Below A₀ base outer g)
    (k : ∀ h', Fr g L (hid h news) m → RaisedSN base (hid h news) (envOf name scope L a cd :: outer) e (.type X) news h' → (hid h news).UpToSlots h' → wpAny (model prog w) (A₀.deeper (envOf name scope L a cd)) (handleBy (.ref e) (envOf name scope L a cd) hs) Q E { s' with heap := h' })
    (hk : scope.kind = .function := by rfl) :
    wpAny (model prog w) (A₀.deeper (envOf name scope L a cd)) (noteFrame (.ref e) (envOf name scope L a cd))
      (fun _ s₂ => wpAny (model prog w) (A₀.deeper (envOf name scope L a cd)) (setFlight (.ref e) none) (fun _ s₃ =>
        wpAny (model prog w) (A₀.deeper (envOf name scope L a cd)) (handleBy (.ref e) (envOf name scope L a cd) hs) Q E s₃) E s₂) E s' := by
  have K' := K.push (name := name) (a := a) (cd := cd) F hk
  have hin : ∀ env ∈ (envOf name scope L a cd :: outer), ∀ b, env.frame = some b → b ∈ (envOf name scope L a cd :: outer).filterMap (·.frame) := fun env he b hb => List.mem_filterMap.mpr ⟨env, he, hb⟩
  have st : base.StaysIn (hideAll h ((envOf name scope L a cd :: outer).filterMap (·.frame))) := fun b o q => hideAll_get _ (K'.stays b o q) fun hm => by
    rw [(K'.frames.mem hm).1] at q; cases q
  have hl : ∀ q ∈ news, (hideAll h ((envOf name scope L a cd :: outer).filterMap (·.frame))).get? q.1 = some q.2 ∧ (hid h news).get? q.1 = none ∧ base.get? q.1 = none := fun q hq => by
    refine ⟨hideAll_get _ (N q hq).1 fun hm => ?_, hideAll_none _ (List.mem_map_of_mem hq), fresh_of_stays K.stays (N q hq).2.2⟩
    obtain ⟨env, he, hf⟩ := List.mem_filterMap.mp hm
    rcases List.mem_cons.mp he with rfl | he
    · exact (N q hq).2.1 (Option.some.inj hf).symm
    · obtain ⟨o, ho, _⟩ := (K.frames.mem (List.mem_filterMap.mpr ⟨env, he, hf⟩)).2
      rw [(N q hq).2.2] at ho; cases ho
  have FG : Fr g L (hid h news) m := (groundX (A := A₀.deeper (envOf name scope L a cd)) (env := envOf name scope L a cd) (R := fun _ _ => True) (s := { s' with heap := h }) K F N (Around.frames_deeper K.stack) rfl hk).1
  obtain ⟨ob, tp, he, hcls, hd⟩ := hx.there
  have hen : (hideAll h ((envOf name scope L a cd :: outer).filterMap (·.frame))).get? e = none := by
    cases q : (hideAll h ((envOf name scope L a cd :: outer).filterMap (·.frame))).get? e with
    | none => rfl
    | some o => have := of_hideAll _ q; rw [hx.new] at this; cases this
  refine first_look (a0 := tp) K'.stack ((funFrames_hide K'.frames hin).of_keeps fun b o hb _ => ⟨o, hx.keeps b o hb, rfl⟩) rfl he (fun b o hb => hx.keeps b o (of_hideAll _ hb)) hen hd rfl rfl fun h₄ hheld hsm₄ => ?_
  refine wpAny_landsW hheld fun h₅ hfl hsm₅ => ?_
  rw [hcls] at hfl
  refine k h₅ FG ⟨_, tp, st, fun b o q nm => hideAll_get _ (of_hideAll _ q) nm, hl, hfl⟩ ?_
  exact ((Heap.UpToSlots.of_keeps fun b o q => hx.keeps b o (of_hideAll _ q)).trans hsm₄).trans hsm₅
end
-- part plpg
/-- a sign of a page -/
noncomputable def pg (mk : Str) (c : Nat) : Str := if ((⟨#[c]⟩ : Str) == mk) = true then ⟨#[10]⟩ else ⟨#[92, c]⟩
noncomputable def pageL (mk : Str) (l : List Nat) : List Nat := (l.flatMap fun c => (pg mk c).cps.toList) ++ [10]
/-- the rows that are read of a page: T lines in all -/
noncomputable def rowsL (T : Int) : Nat → List Nat → Int → List (Int × List Nat)
  | 0, _, _ => []
  | k + 1, l, ends => if (token l).1 = [] then [(T - nls (token l).2 - ends, [])] else (T - nls (token l).2 - (ends + nls (token l).1), (token l).1) :: rowsL T k (token l).2 (ends + nls (token l).1)
noncomputable def rowsOf (mk : Str) (l : List Nat) : List (Int × List Nat) := rowsL (1 + nls (pageL mk l)) ((pageL mk l).length + 1) (pageL mk l) 1
theorem pg_len (mk : Str) (c : Nat) : (pg mk c).length ≤ 2 := by
  by_cases h : ((⟨#[c]⟩ : Str) == mk) = true
  · rw [pg, if_pos h]; exact (by decide : 1 ≤ 2)
  · rw [pg, if_neg h]; exact Nat.le_refl 2
theorem join_flat : ∀ xs : List Str, (Str.join ⟨#[]⟩ xs).cps.toList = xs.flatMap (·.cps.toList)
  | [] => rfl
  | [x] => by simp [Str.join]
  | x :: y :: r => by
    rw [show Str.join ⟨#[]⟩ (x :: y :: r) = x ++ ⟨#[]⟩ ++ Str.join ⟨#[]⟩ (y :: r) from rfl, Str.cps_append, Str.cps_append, Array.toList_append, Array.toList_append, join_flat (y :: r)]
    simp
theorem strs_of {f : Nat → Str} : ∀ (l : List Nat) (ys : List Value), ys.length = l.length → (∀ (i : Nat) (v : Value), ys[i]? = some v → ∃ (c : Nat) (t : Tok), l[i]? = some c ∧ v = Value.str (f c) t) → StrsAre ys (l.map f)
  | [], [], _, _ => .nil
  | c :: l, y :: ys, hl, h => by
    obtain ⟨c', t, hc, rfl⟩ := h 0 y rfl
    obtain rfl : c = c' := by simpa using hc
    exact .cons _ _ (strs_of l ys (by simpa using hl) fun i v hi => by
      obtain ⟨c', t, hc, e⟩ := h (i + 1) v (by simpa using hi)
      exact ⟨c', t, by simpa using hc, e⟩)
  | [], _ :: _, hl, _ => by simp at hl
  | _ :: _, [], hl, _ => by simp at hl
theorem page_eq (mk text : Str) : (Txt.join (Str.ofString "") (text.cps.toList.map (pg mk)) ++ Str.ofString "\n" : Str).cps.toList = pageL mk text.cps.toList := by
  have h0 : Str.ofString "" = ⟨#[]⟩ := by decide +kernel
  have h1 : (Str.ofString "\n").cps.toList = [10] := by decide +kernel
  rw [Str.cps_append, Array.toList_append, h1, h0, show Txt.join ⟨#[]⟩ (text.cps.toList.map (pg mk)) = Str.join ⟨#[]⟩ (text.cps.toList.map (pg mk)) from StrLaws.glued_eq_join _ _, join_flat, pageL, List.flatMap_map]
theorem sum_pg (mk : Str) : ∀ l : List Nat, ((l.map (pg mk)).map (·.length)).sum ≤ 2 * l.length
  | [] => Nat.le_refl _
  | c :: l => by
    have h1 := pg_len mk c
    have h2 := sum_pg mk l
    simp only [List.map_cons, List.sum_cons, List.length_cons]
    omega
theorem flat_len {f : Nat → List Nat} (h : ∀ c, (f c).length ≤ 2) : ∀ l : List Nat, (l.flatMap f).length ≤ 2 * l.length
  | [] => Nat.le_refl _
  | c :: l => by
    have h1 := h c
    have h2 := flat_len h l
    simp only [List.flatMap_cons, List.length_append, List.length_cons]
    omega
theorem page_len (mk : Str) (l : List Nat) : (pageL mk l).length ≤ 2 * l.length + 1 := by
  have h := flat_len (f := fun c => (pg mk c).cps.toList) (fun c => by have := pg_len mk c; simpa [Str.length] using this) l
  rw [pageL, List.length_append]
  exact Nat.add_le_add_right h 1
theorem len_toList (x : Str) : x.length = x.cps.toList.length := by simp [Str.length]
/-- a list of signs, as the values that list() made of a text -/
theorem signs_vals : ∀ (l : List Nat) (ys : List Value), CarriedAll ys ((l.map fun c => (⟨#[c]⟩ : Str)).map .str) → ∃ q : List (Nat × Tok), q.map (·.1) = l ∧ ys.reverse = sigs q
  | [], ys, h => by
    cases h
    exact ⟨[], rfl, rfl⟩
  | c :: l, ys, h => by
    cases h with
    | cons h1 h2 =>
      obtain ⟨q, e1, e2⟩ := signs_vals l _ h2
      cases h1 with
      | str x t => exact ⟨(c, t) :: q, by rw [List.map_cons, e1], by rw [List.reverse_cons, e2, sigs_cons]⟩
theorem quoted_short (acc l : List Nat) : (quoted acc l).2.length ≤ l.length := by
  fun_induction quoted acc l <;> simp_all <;> omega
theorem bare_short (acc l : List Nat) : (bare acc l).2.length ≤ l.length := by
  fun_induction bare acc l <;> simp_all <;> omega
theorem token_short (l : List Nat) : (token l).2.length ≤ l.length ∧ ((token l).1 ≠ [] → (token l).2.length < l.length) := by
  fun_induction token l
  · simp
  · rename_i ih
    exact ⟨Nat.le_succ_of_le ih.1, fun h => Nat.lt_succ_of_lt (ih.2 h)⟩
  · have := quoted_short [] ‹_›
    exact ⟨Nat.le_succ_of_le this, fun _ => Nat.lt_succ_of_le this⟩
  · simp
  · rename_i d r' _ _
    have := bare_short [d] r'
    simp only [List.length_cons]
    exact ⟨by omega, fun _ => by omega⟩
  · rename_i c r _ _ _
    have := bare_short [c] r
    simp only [List.length_cons]
    exact ⟨by omega, fun _ => by omega⟩
/-- what is read from a word on, the signs behind it being l -/
noncomputable def rowsT (T : Int) (k : Nat) (wd l : List Nat) (ends : Int) : List (Int × List Nat) := if wd = [] then [(T - nls l - ends, [])] else (T - nls l - (ends + nls wd), wd) :: rowsL T k l (ends + nls wd)
theorem rowsL_succ (T : Int) (k : Nat) (l : List Nat) (ends : Int) : rowsL T (k + 1) l ends = rowsT T k (token l).1 (token l).2 ends := rfl
/-- the rows, as they lie in the heap -/
inductive RowsAre : List Value → List (Addr × Obj) → List (Int × List Nat) → Prop
  | nil : RowsAre [] [] []
  | snoc {vs ps r} (a : Addr) (i : Int) (x : List Nat) (t u : Tok) (n : Nat) : RowsAre vs ps r → RowsAre (vs ++ [.ref a]) (ps ++ [(a, W.listOf #[.int i t, .str (strOf x) u] n)]) (r ++ [(i, x)])
theorem cnt_nls : ∀ l : List Nat, cnt 10 l = nls l
  | [] => by rw [cnt_nil]; rfl
  | c :: l => by
    rw [cnt_cons, cnt_nls l, nls, nls, List.count_cons]
    by_cases h : c = 10
    · simp [h]; try omega
    · simp [h]
theorem count_nls (wd : List Nat) : Txt.count (strOf wd) (Str.ofString "\n") = nls wd := by
  rw [show Str.ofString "\n" = ⟨#[10]⟩ from by decide +kernel, count_cnt, cnt_nls]
  simp [strOf]
theorem app_step {prog : Program} {w : World} {A₀ : Around} {E : Value → Shared → Prop} {s : Shared} {g : Heap} {L P A : Addr} {m : Str → Option Value} {oP : Obj} {v : Value} {refs : List Value} {cap : Nat} {front ps : List (Addr × Obj)} {Q : Value → Shared → Prop}
    (F : Fr g L s.heap m) (N : News g L s.heap ((P, oP) :: (front ++ (A, W.listOf refs.toArray cap) :: ps))) (hP : A ≠ P) (hfr : ∀ q ∈ front, q.1 ≠ A) (hps : ∀ q ∈ ps, q.1 ≠ A) (hsz : refs.length ≤ sizeLine)
    (h : ∀ h', Fr g L h' m → News g L h' (front ++ (A, W.listOf (refs ++ [v]).toArray (cap + 1)) :: (ps ++ [(P, oP)])) → Q .none { s with heap := h' }) : wpAny (model prog w) A₀ (call (.builtin "list.append") [.ref A, v]) Q E s := by
  have zA := N (A, W.listOf refs.toArray cap) (List.mem_cons_of_mem _ (List.mem_append_right _ (List.mem_cons_self ..)))
  refine append_at (hsz := by rw [List.size_toArray]; exact hsz) zA.1 fun h' hs hD => ?_
  refine h h' (F.change hs zA.2.1 zA.2.2) fun q hq => ?_
  have go : ∀ q ∈ ((P, oP) :: (front ++ (A, W.listOf refs.toArray cap) :: ps)), q.1 ≠ A → h'.get? q.1 = some q.2 ∧ q.1 ≠ L ∧ g.get? q.1 = none := fun q hq hne => ⟨hs.extBut _ _ hne (N q hq).1, (N q hq).2⟩
  rcases List.mem_append.mp hq with hq | hq
  · exact go q (List.mem_cons_of_mem _ (List.mem_append_left _ hq)) (hfr q hq)
  · rcases List.mem_cons.mp hq with rfl | hq
    · refine ⟨?_, zA.2⟩
      rw [hD]; simp
    · rcases List.mem_append.mp hq with hq | hq
      · exact go q (List.mem_cons_of_mem _ (List.mem_append_right _ (List.mem_cons_of_mem _ hq))) (hps q hq)
      · rw [List.mem_singleton.mp hq]
        exact go _ (List.mem_cons_self ..) (Ne.symm hP)
theorem after_snoc {A P : Addr} {ps : List (Addr × Obj)} (oP : Obj) (hps : ∀ q ∈ ps, @LT.lt Nat _ A q.1) (hP : @LT.lt Nat _ A P) : ∀ q ∈ ps ++ [(P, oP)], @LT.lt Nat _ A q.1 := fun q hq => by
  rcases List.mem_append.mp hq with hq | hq
  · exact hps q hq
  · rw [List.mem_singleton.mp hq]; exact hP
-- part pat
theorem codeP_call_function {prog : Program} {w : World} {A : Around} {R : Result → Shared → Prop} {s : Shared} {a : Addr} {args : Args} {o : Obj} {fd : FuncData} {body : List Stmt} (hroom : A.depth < recursionLimit)
    (ho : s.heap.get? a = some o)
    (hd' : o.data = .func fd) (hco : fd.scope.isCoroutine = false) (hgen : fd.scope.isGenerator = false) (hbody : fd.body = .stmts body) (hcd : s.heap.CodeRec fd.code fd.qualname)
    (h : wpAny (model prog w) A.in1 (bindArgs fd args) (fun binds s₁ =>
      wpAny (model prog w) A.in1 (newFunctionEnv fd.scope fd.globals fd.closure binds (fd.qualname ++ ".<locals>.") (some a) fd.code none fd.builtins)
        (fun env s₂ => s₂.heap.NoLimit ∧ codeP (model prog w) A (.func body env) R s₂) (fun e s' => R (.error e) s') s₁) (fun e s' => R (.error e) s') s) :
    codeP (model prog w) A (.call (.ref a) args) R s := by
  refine codeP_of_tree ?_
  show wpP _ A.in1 (callAny (.ref a) args) _ _ s
  simp only [callAny]
  refine wpP_bindA (wpAny_load ho ?_)
  obtain ⟨c, oc, vs, tq, hc, hoc, hdc, hq⟩ := hcd
  simp only [hd', callFunction, hco, hgen, hbody, hc]
  rw [hc] at h
  refine wpP_bindA (m := field (.ref c) 1) (wpAny_field hoc hdc hq (wpP_bindA (wpAny_pure ?_)))
  exact wpP_bindA (wpAny_mono h (fun binds s₁ h₁ => wpP_bindA (wpAny_mono h₁ (fun env s₂ h₂ => wpP_bindA (wpAny_enterFrame h₂.1 hroom
    (wpP_pure (And.intro rfl h₂.2)))) fun _ _ h' => h')) fun _ _ h' => h')
/-- the law's own def, called with its heap in sight -/
theorem lawT_at {prog : Program} {w : World} {K : Frag} {p : Program} {loose : List Str} {mean : ExcName → Option Value} {mg mb : Str → Option Value} {f : Addr} {args : List Value} {own : List (Addr × Obj)}
    {post : Value → List (Addr × Obj) → Prop} {o : Obj} {name qual : Str} {params : Arguments} {body : List Stmt} {scope : Scope} {dV kV doc pm cdv ct : Value} {an : Option Addr} {binds : List (Str × Value)}
    {dp un : Nat} {gd : Option (List Code)} {fr : List Env} {base : Heap} {s : Shared} {R : Result → Shared → Prop}
    (BG : Below (mA dp un gd fr) base fr (hid s.heap own)) (XB : K.In base) (TB : Top p loose mean mg mb base) (DG : KtsDicts (fsOf fr) (hid s.heap own)) (hd : dp < recursionLimit)
    (hown : ∀ q ∈ own, s.heap.get? q.1 = some q.2) (hret : ∀ v s' own', RetT (fsOf fr) s own s' own' → post v own' → R (.ok (.ret v)) s')
    (ho : s.heap.get? f = some o) (hdata : o.data = .func (fnOf name qual params body scope dV kV doc pm an cdv ct)) (hcd : s.heap.CodeRec cdv qual)
    (hbind : ∀ s, BindsTo s (fnOf name qual params body scope dV kV doc pm an cdv ct) ⟨args, []⟩ binds) (hkind : (binds.all fun y => scope.names.lookup y.1 == some .local || scope.names.lookup y.1 == some .cell) = true)
    (hnd : ((cellsFrom 0 scope.names []).map (·.1)).Nodup)
    (hco : scope.isCoroutine = false) (hgen : scope.isGenerator = false) (hk : scope.kind = .function)
    (h : ∀ (g : Heap) (L : Addr) (h₁ : Heap) (tk : Nat) (cells : List (Addr × Obj)), g = hid s.heap own → Below (mA dp un gd fr) base fr g → Fr g L h₁ (bindL (envOfC qual scope L f cdv).kindOf binds fun _ => none) → News g L h₁ (cells ++ own) →
      CellsAre (bindC (envOfC qual scope L f cdv).kindOf binds fun _ => none) (cellsFrom (L + 1) scope.names []) cells → K.In base → Top p loose mean mg mb base → K.In g → Top p loose mean mg mb g → (∀ q ∈ own, q.1 < L) → KtsDicts (fsOf fr) g →
      wpP (model prog w) ((mA dp un gd fr).deeper (envOfC qual scope L f cdv)) (execs body (envOfC qual scope L f cdv))
        (fun fl s' => LvT s (fsOf fr) g post (match fl with | .ret v => v | _ => .none) s') noE
        { s with heap := h₁, toks := tk }) : codeP (model prog w) (mA dp un gd fr) (.call (.ref f) ⟨args, []⟩) R s := by
  have XG : K.In (hid s.heap own) := XB.keeps BG.stays
  have TG : Top p loose mean mg mb (hid s.heap own) := TB.keeps BG.stays
  have hl : s.heap.NoLimit := TG.nolimit.keeps fun b o e => of_hideAll _ e
  refine codeP_call_function hd ho hdata hco hgen rfl hcd (hbind s _ _ _ _ ?_)
  refine wpAny_newFunctionEnv_cells hk (kindsX hkind _) fun env' he s' x => ?_
  subst he
  refine ⟨hl.keeps x.toInCall.keep, codeP_func ?_⟩
  obtain ⟨h₁, tk, rfl, _⟩ := x.done
  have hk₁ := x.toInCall.keep
  obtain ⟨cells, NC, Y⟩ := Cl.news (h₀ := s.heap) (Nat.le_refl _) fun n c hm => ⟨x.cell n c (lookup_of_mem_nodup (cellsFrom_names scope.names 0 (s.heap.objs.size + 1) [] [] rfl ▸ hnd) hm), x.above n c hm⟩
  refine wpP_mono (h _ s.heap.objs.size h₁ tk cells rfl BG ⟨x.toInCall.ns, fun b o e => hk₁ b o (of_hideAll _ e), Nat.le_of_eq (hideAll_size _ _)⟩ (fun q hq => ?_) Y XB TB XG TG (fun q hq => Heap.lt_size (hown q hq)) DG) (fun fl s' hl => ?_) fun e s' y => y.elim
  · rcases List.mem_append.mp hq with hq | hq
    · refine ⟨(NC q hq).1, (NC q hq).2.1, ?_⟩
      cases z : (hid s.heap own).get? q.1 with
      | none => rfl
      | some o => have := of_hideAll _ z; rw [(NC q hq).2.2] at this; cases this
    · exact ⟨hk₁ _ _ (hown q hq), Nat.ne_of_lt (Heap.lt_size (hown q hq)), hideAll_none _ (List.mem_map_of_mem hq)⟩
  · obtain ⟨own', hr, hp⟩ := hl.ret
    exact hret _ _ _ hr hp
theorem good_law {c : ClaimW} {cl : Str → Option Addr} {mean : ExcName → Option Value} {args : List WData} {s₁ s' : Shared} {tabs : List (Addr × Addr)} {v : Value} {d : WData} {as : List Addr} (hT : TabsAt tabs s₁.heap) (hr : ∀ x, c.raises args x = false)
    (r2 : ReadsW c.records cl s'.heap v d as) (r3 : c.post args d args = true) (r5 : c.unshared = true → as.Nodup ∧ ∀ a ∈ as, s₁.heap.get? a = none)
    (keep : ∀ b o, b ∉ tabs.map (·.2) → s₁.heap.get? b = some o → s'.heap.get? b = some o) (hgr : GrownAll tabs s'.heap) (hos : s'.os = s₁.os) (hg : AllBare s'.gens) : GoodWG c cl mean args s₁ (.ok (.ret v)) s' := by
  have grown : ∀ b o, b ∈ tabs.map (·.2) → s₁.heap.get? b = some o → isCodeTable s₁.heap b ∧ o = tabObj #[] ∧ ∃ ps, s'.heap.get? b = some (tabObj ps) := fun b o hb e => by
    obtain ⟨q, hq, rfl⟩ := List.mem_map.mp hb
    have e2 := (hT q hq).2
    rw [e] at e2
    exact ⟨((hT q hq).1.tab (hT q hq).2).isCodeTable, Option.some.inj e2, hgr.get q hq⟩
  refine ⟨.inl ⟨v, d, as, rfl, hr, r2, r3, r5⟩, ⟨fun b o e => ?_, fun b o e => ?_⟩, hos, hg⟩
  · by_cases hb : b ∈ tabs.map (·.2)
    · obtain ⟨ht, rfl, ps, hP⟩ := grown b o hb e
      exact .inr (.inl ⟨ht, rfl, #[], ps, rfl, by rw [Array.empty_append]; exact hP⟩)
    · exact .inl (keep b o hb e)
  · by_cases hb : b ∈ tabs.map (·.2)
    · obtain ⟨_, _, ps, hP⟩ := grown b o hb e
      exact ⟨_, hP⟩
    · exact ⟨o, keep b o hb e⟩
theorem slice_anyN {prog : Program} {w : World} {A : Around} {E : Value → Shared → Prop} {s : Shared} {h₀ h : Heap} {tk : Nat} {L l : Addr} {m : Str → Option Value} {news : List (Addr × Obj)} {value slice : Expr} {its : Array Value} {lo hi : Option Int} {vl vu : Value} {Q : Value → Shared → Prop}
    (F : Fr h₀ L h m) (N : News h₀ L h news) (hl : h.IsList l its) (pl : IsPart vl lo) (pu : IsPart vu hi) (hz : its.size ≤ sizeLine)
    (k : ∀ D h', Fr h₀ L h' m → News h₀ L h' ((D, W.listOf (slicePick its lo hi none) 0) :: news) → (∀ p ∈ news, p.1 < D) → Q (.ref D) { s with heap := h', toks := tk })
    (hs : subscripted slice false (.ref l) (.ref h.objs.size) = operate [.ref h.objs.size, .ref l] (getItem (.ref l) (.ref h.objs.size))) (ht : ∀ r, letTemporaryGo value (.ref l) r = pure ()) :
    wpAny (model prog w) A (subscriptTail value slice (.ref l) (.ref h.objs.size)) Q E { s with heap := h.push { cls := .type "slice", data := .fields #[vl, vu, .none] }, toks := tk } :=
  kmk_slice (s := { s with heap := h, toks := tk }) F N hl pl pu k hs ht hz
noncomputable def Good (n : Nat) (y : Str) : Prop := y.length ≤ n ∧ PyData.strOk y = true
inductive StrG (n : Nat) : Value → Prop
  | mk (y : Str) (u : Tok) (h : Good n y) : StrG n (.str y u)
noncomputable def okV (n : Nat) : Value → Bool
  | .str y _ => decide (y.length ≤ n) && PyData.strOk y
  | _ => false
theorem okV_of {n : Nat} : ∀ {v : Value}, okV n v = true → StrG n v
  | .str y u, h => .mk y u ⟨of_decide_eq_true (Bool.and_eq_true_iff.mp h).1, (Bool.and_eq_true_iff.mp h).2⟩
theorem strs_good {n : Nat} : ∀ (ys : List Value), (∀ (i : Nat) (v : Value), ys[i]? = some v → StrG n v) → ∃ ss, StrsAre ys ss ∧ ∀ y ∈ ss, Good n y
  | [], _ => ⟨[], .nil, fun _ h => nomatch h⟩
  | v :: ys, h => by
    obtain ⟨y, u, hy⟩ := h 0 v rfl
    obtain ⟨ss, h1, h2⟩ := strs_good ys fun i v hi => h (i + 1) v (by simpa using hi)
    refine ⟨y :: ss, .cons y u h1, fun z hz => ?_⟩
    rcases List.mem_cons.mp hz with rfl | hz
    · exact hy
    · exact h2 z hz
theorem good_of {n : Nat} {y : Str} : Good n y ↔ y.cps.toList.length ≤ n ∧ ∀ c ∈ y.cps.toList, c < 0x110000 := by
  unfold Good PyData.strOk
  rw [show y.length = y.cps.toList.length from by simp [Str.length], ← Array.all_toList, List.all_eq_true]
  simp only [decide_eq_true_eq]
theorem Good.app {n k : Nat} {x y : Str} (hx : Good n x) (hy : Good k y) : Good (n + k) (x ++ y) := by
  rw [good_of] at hx hy ⊢
  rw [Str.cps_append, Array.toList_append, List.length_append]
  refine ⟨Nat.add_le_add hx.1 hy.1, fun c hc => ?_⟩
  rcases List.mem_append.mp hc with h | h
  · exact hx.2 c h
  · exact hy.2 c h
theorem Good.up {n k : Nat} {x : Str} (hx : Good n x) (h : n ≤ k) : Good k x := ⟨Nat.le_trans hx.1 h, hx.2⟩
theorem good_flat {n : Nat} : ∀ ss : List Str, (∀ y ∈ ss, Good n y) → (ss.flatMap (·.cps.toList)).length ≤ n * ss.length ∧ ∀ c ∈ ss.flatMap (·.cps.toList), c < 0x110000
  | [], _ => ⟨Nat.le_refl _, fun _ h => nomatch h⟩
  | y :: ss, h => by
    have h1 := good_of.mp (h y (List.mem_cons_self ..))
    obtain ⟨h2, h3⟩ := good_flat ss fun z hz => h z (List.mem_cons_of_mem _ hz)
    rw [List.flatMap_cons, List.length_append, List.length_cons, Nat.mul_succ]
    refine ⟨by omega, fun c hc => ?_⟩
    rcases List.mem_append.mp hc with h | h
    · exact h1.2 c h
    · exact h3 c h
theorem Good.join {n k : Nat} {ss : List Str} (h : ∀ y ∈ ss, Good n y) (hk : ss.length ≤ k) : Good (n * k) (Txt.join (Str.ofString "") ss) := by
  have h0 : Str.ofString "" = ⟨#[]⟩ := by decide +kernel
  obtain ⟨h1, h2⟩ := good_flat ss h
  rw [good_of, h0, show Txt.join ⟨#[]⟩ ss = Str.join ⟨#[]⟩ ss from StrLaws.glued_eq_join _ _, join_flat]
  exact ⟨Nat.le_trans h1 (Nat.mul_le_mul_left _ hk), h2⟩
theorem sum_good {n : Nat} : ∀ ss : List Str, (∀ y ∈ ss, Good n y) → (ss.map (·.length)).sum ≤ n * ss.length
  | [], _ => Nat.le_refl _
  | y :: ss, h => by
    have h1 := (h y (List.mem_cons_self ..)).1
    have h2 := sum_good ss fun z hz => h z (List.mem_cons_of_mem _ hz)
    rw [List.map_cons, List.sum_cons, List.length_cons, Nat.mul_succ]; omega
theorem strs_take : ∀ (k : Nat) {vs : List Value} {ss : List Str}, StrsAre vs ss → StrsAre (vs.take k) (ss.take k)
  | 0, _, _, _ => .nil
  | _ + 1, _, _, .nil => .nil
  | k + 1, _, _, .cons y u r => .cons y u (strs_take k r)
theorem strs_drop : ∀ (k : Nat) {vs : List Value} {ss : List Str}, StrsAre vs ss → StrsAre (vs.drop k) (ss.drop k)
  | 0, _, _, h => h
  | _ + 1, _, _, .nil => .nil
  | k + 1, _, _, .cons _ _ r => strs_drop k r
theorem strs_len : ∀ {vs : List Value} {ss : List Str}, StrsAre vs ss → vs.length = ss.length
  | _, _, .nil => rfl
  | _, _, .cons _ _ r => by rw [List.length_cons, List.length_cons, strs_len r]
theorem good_slice {n : Nat} {x y : Str} (h : Good n x) (hs : ∀ c ∈ y.cps.toList, c ∈ x.cps.toList) (hl : y.cps.toList.length ≤ x.cps.toList.length) : Good n y := by
  rw [good_of] at h ⊢
  exact ⟨Nat.le_trans hl h.1, fun c hc => h.2 c (hs c hc)⟩
/-- behind a catching def, where no frame of a caller is there to turn -/
theorem turn_nil {g g' h : Heap} {L : Addr} {m : Str → Option Value} {news : List (Addr × Obj)} (T : KtsTurn (fsOf []) g g') (F : Fr g' L h m) (N : News g' L h news) : Fr g L h m ∧ News g L h news :=
  ⟨⟨F.ns, fun b o e => F.keep b o (T.other b o e (fun h => nomatch h)), by rw [← T.size]; exact F.above⟩, fun q hq => ⟨(N q hq).1, (N q hq).2.1, turn_none T (N q hq).2.2⟩⟩
section
variable {prog : Program} {w : World} {K : Frag} {p : Program} {loose : List Str} {mean : ExcName → Option Value} {mg mb : Str → Option Value} {d u : Nat} {f : Addr} {args : List Value} {own : List (Addr × Obj)}
  {post post' : Value → List (Addr × Obj) → Prop}
theorem CtrT.mono (C : CtrT prog w K p loose mean mg mb d u f args own post) (h : ∀ v own', post v own' → post' v own') : CtrT prog w K p loose mean mg mb d u f args own post' :=
  fun dp un gd fr base s R B X T D hd hu ho hr => C dp un gd fr base s R B X T D hd hu ho fun v s' own' r hp => hr v s' own' r (h v own' hp)
theorem Ctr.mono {err : Value → List Value → Prop} {errN : String → Prop} (C : Ctr prog w K p loose mean mg mb d u f args own post err errN) (h : ∀ v own', post v own' → post' v own') : Ctr prog w K p loose mean mg mb d u f args own post' err errN :=
  fun dp un gd fr base s R B X T D hd hu ho hr he => C dp un gd fr base s R B X T D hd hu ho (fun v s' own' r hp => hr v s' own' r (h v own' hp)) he
/-- such a contract is used where no frame of a caller is there -/
theorem ctrT_use0 (C : CtrT prog w K p loose mean mg mb d u f args own post) {A₀ : Around} {base h₀ : Heap} {env : Env} {L : Addr} {m : Str → Option Value} {s : Shared} {rest : List (Addr × Obj)} {dp un : Nat} {gd : Option (List Code)}
    {Q E : Value → Shared → Prop}
    (B : Below A₀ base [] h₀) (F : Fr h₀ L s.heap m) (XB : K.In base) (TB : Top p loose mean mg mb base) (D : KtsDicts (fsOf []) h₀) (N : News h₀ L s.heap (own ++ rest)) (hf : env.frame = some L) (hke : env.scope.kind = .function)
    (hd : dp + d < recursionLimit) (hu : un + u < cLine) (hap : ∀ q ∈ rest, q.1 ∉ own.map (·.1))
    (h : ∀ v own' h' tk', post v own' → Fr h₀ L h' m → News h₀ L h' (own' ++ rest) → Q v { s with heap := h', toks := tk' }) :
    wpP (model prog w) (mA dp un gd [env]) (call (.ref f) args) Q E s :=
  ctrT_use C B F XB TB D N hf hke hd hu hap fun v own' h' tk' _ hp T' F' N' _ => h v own' h' tk' hp (turn_nil T' F' N').1 (turn_nil T' F' N').2
end
-- part head
set_option maxRecDepth 100000 in
set_option maxHeartbeats 8000000 in
open_top hd for PySem.Challenge.rw_pm0015_01
section
local macro_rules | `(tactic| walk_at $s:str) => if ["exec For Name Name cons nil", "exec While Compare cons nil", "pyIter str", "pyIter ref", "Lv", "LvE", "TurnEnd", "wpP", "FnAnd", "LvT", "call ref"].contains s.getString then `(tactic| refine Hold.mk ?_) else Lean.Macro.throwUnsupported
local macro_rules | `(tactic| walk_at $s:str) => if ["eval Call", "eval Compare", "eval BinOp", "eval Subscript"].contains s.getString then `(tactic| (k_fold; walk_at $s)) else Lean.Macro.throwUnsupported
local macro_rules | `(tactic| walk_at "eval Name") => `(tactic| (k_here; (first | (with_reducible show wpAny _ _ (eval (Expr.Name _ _) (envOf _ _ _ _ _)) _ _ _) | (with_reducible show wpAny _ _ (eval (Expr.Name _ _) (envOfC _ _ _ _ _)) _ _ _)); k_dflt (refine' ld ?k1 ?k2 ?_; (case k1 => k_asm); (case k2 => (first | exact (Eq.refl (some _)) | with_reducible assumption | assumption)); k_whole)))
local macro_rules | `(tactic| walk_at "execs cons") => `(tactic| ((with_reducible refine wpAny_execs_cons ?_); (try dsimp only); k_fold; (try k_gentoks)))
local macro_rules | `(tactic| walk_at "storeName") => `(tactic| (k_here; k_dflt (refine' storeX_Lm ?F ?N ?_ ?a ?b; (case F => k_asm); (case N => k_asm); (case a => rfl); (case b => rfl); k_whole; intro m' h' F' N'; (try k_sweep))))
-- part c257
noncomputable def name257 : List Nat → List Nat
  | [] => []
  | [c] => if c = 34 then [] else [c]
  | c :: d :: r => if c = 34 then (if d = 34 then 34 :: name257 r else []) else c :: name257 (d :: r)

theorem name_ne {c : Nat} {r : List Nat} (h : c ≠ 34) : name257 (c :: r) = c :: name257 r := by
  cases r with
  | nil => simp [name257, h]
  | cons d r => simp [name257, h]
theorem name_q {r : List Nat} (h : ∀ r', r ≠ 34 :: r') : name257 (34 :: r) = [] := by
  cases r with
  | nil => simp [name257]
  | cons d r =>
    have : d ≠ 34 := fun e => h r (by rw [e])
    simp [name257, this]
noncomputable def v257 (t : Str) : Str := if (t.cps.toList.drop 3).take 2 = [32, 34] then strOf (name257 (t.cps.toList.drop 5)) else ⟨#[]⟩
/-- what parse257 gives back -/
inductive P257 (text : Str) : Value → List (Addr × Obj) → Prop
  | mk (h3 : text.cps.toList.take 3 = [50, 53, 55]) (t : Tok) : P257 text (.str (v257 text) t) []
theorem P257.of {text x : Str} (h3 : text.cps.toList.take 3 = [50, 53, 55]) (e : v257 text = x) (t : Tok) : P257 text (.str x t) [] := e ▸ .mk h3 t
/-- how far the loop has come -/
structure At57 (text dn : Str) (i : Nat) : Prop where
  h2 : (text.cps.toList.drop 3).take 2 = [32, 34]
  h5 : 5 ≤ i
  hi : i ≤ text.length
  hdl : dn.length ≤ i
  heq : dn.cps.toList ++ name257 (text.cps.toList.drop i) = name257 (text.cps.toList.drop 5)
section
variable {text dn : Str} {i : Nat}
theorem At57.start (h2 : (text.cps.toList.drop 3).take 2 = [32, 34]) : At57 text ⟨#[]⟩ 5 := by
  have := congrArg List.length h2
  rw [List.length_take, List.length_drop, Array.length_toList] at this
  refine ⟨h2, Nat.le_refl _, ?_, Nat.zero_le _, rfl⟩
  show 5 ≤ text.cps.size
  rw [show ([32, 34] : List Nat).length = 2 from rfl] at this
  have := this ▸ Nat.min_le_right 2 (text.cps.size - 3)
  omega
theorem At57.fin (h : At57 text dn i) (e : name257 (text.cps.toList.drop i) = []) : v257 text = dn := by
  rw [v257, if_pos h.h2]
  apply str_ext
  rw [← h.heq, e, List.append_nil]
  rfl
theorem At57.stop (h : At57 text dn i) (hl : ¬ (i : Int) < (text.length : Int)) : v257 text = dn := h.fin (by rw [drop_end (i := i) (Int.ofNat_le.mp (Int.not_lt.mp hl))]; rfl)
theorem At57.one (h : At57 text dn i) (ha : (Txt.item text (i : Int) == Str.ofString "\"") = true) (hl : (text.length : Int) ≤ (i : Int) + 1) : v257 text = dn := by
  by_cases hi : i < text.length
  · obtain ⟨c, hi1⟩ := has_at hi
    rw [item_at hi1] at ha
    have hc := of_decide_eq_true (one_beq (d := 34) (by decide) ha)
    subst hc
    exact h.fin (by rw [drop_at' hi1, drop_end (i := i + 1) (Int.ofNat_le.mp hl)]; rfl)
  · exact h.stop fun e => hi (Int.ofNat_lt.mp e)
theorem At57.two (h : At57 text dn i) (ha : (Txt.item text (i : Int) == Str.ofString "\"") = true) (hl : ¬ (text.length : Int) ≤ (i : Int) + 1) (hb : (Txt.item text ((i : Int) + 1) != Str.ofString "\"") = true) : v257 text = dn := by
  have hl : i + 1 < text.length := Int.ofNat_lt.mp (Int.not_le.mp hl)
  obtain ⟨c, hi1⟩ := has_at (Nat.lt_of_succ_lt hl)
  obtain ⟨d, hi2⟩ := has_at hl
  rw [item_at hi1] at ha
  rw [item1 hi2] at hb
  have hc := of_decide_eq_true (one_beq (d := 34) (by decide) ha)
  have hd := of_decide_eq_true (one_bne (d := 34) (by decide) hb)
  subst hc
  exact h.fin (by rw [drop_at' hi1, drop_at' hi2, name_q (fun r e => hd (List.cons.inj e).1)])
theorem At57.dbl (h : At57 text dn i) (ha : (Txt.item text (i : Int) == Str.ofString "\"") = true) (hl : ¬ (text.length : Int) ≤ (i : Int) + 1) (hb : (Txt.item text ((i : Int) + 1) != Str.ofString "\"") = false) : At57 text (dn ++ Txt.item text (i : Int)) (i + 2) := by
  have hl : i + 1 < text.length := Int.ofNat_lt.mp (Int.not_le.mp hl)
  obtain ⟨c, hi1⟩ := has_at (Nat.lt_of_succ_lt hl)
  obtain ⟨d, hi2⟩ := has_at hl
  rw [item_at hi1] at ha ⊢
  rw [item1 hi2] at hb
  have hc := of_decide_eq_true (one_beq (d := 34) (by decide) ha)
  have hd := of_decide_eq_false (one_bne (d := 34) (by decide) hb)
  subst hc
  obtain rfl : d = 34 := Decidable.not_not.mp hd
  refine ⟨h.h2, Nat.le_trans h.h5 (Nat.le_add_right ..), hl, ?_, ?_⟩
  · rw [Str.length_append]; exact Nat.le_trans (Nat.add_le_add_right h.hdl 1) (Nat.le_succ _)
  · rw [← h.heq, drop_at' hi1, drop_at' hi2, Str.cps_append, Array.toList_append, List.append_assoc]
    simp [name257]
theorem At57.step (h : At57 text dn i) (hl : (i : Int) < (text.length : Int)) (ha : (Txt.item text (i : Int) == Str.ofString "\"") = false) : At57 text (dn ++ Txt.item text (i : Int)) (i + 1) := by
  have hl : i < text.length := Int.ofNat_lt.mp hl
  obtain ⟨c, hi1⟩ := has_at hl
  rw [item_at hi1] at ha ⊢
  have hc := of_decide_eq_false (one_beq (d := 34) (by decide) ha)
  refine ⟨h.h2, Nat.le_succ_of_le h.h5, hl, ?_, ?_⟩
  · rw [Str.length_append]; exact Nat.add_le_add_right h.hdl 1
  · rw [← h.heq, drop_at' hi1, name_ne hc, Str.cps_append, Array.toList_append, List.append_assoc]
    rfl
theorem At57.lt1 (hl : (i : Int) < (text.length : Int)) : text.length - (i + 1) < text.length - i := Nat.sub_lt_sub_left (Int.ofNat_lt.mp hl) (Nat.lt_succ_self i)
theorem At57.lt2 (hl : (i : Int) < (text.length : Int)) : text.length - (i + 2) < text.length - i := Nat.sub_lt_sub_left (Int.ofNat_lt.mp hl) (Nat.lt_add_of_pos_right (by decide))
end
inductive inv257 (text : Str) (m : Str → Option Value) : Nat → List (Addr × Obj) → Prop
  | mk (i : Nat) (dn : Str) (t1 t2 t3 t4 : Tok) (hr : m (Str.ofString "resp") = some (.str text t4)) (hii : m (Str.ofString "i") = some (.int i t1)) (hn : m (Str.ofString "n") = some (.int text.length t2)) (hdn : m (Str.ofString "dirname") = some (.str dn t3)) (h : At57 text dn i) : inv257 text m (text.length - i) []
set_option maxRecDepth 100000 in
set_option maxHeartbeats 8000000 in
theorem p257_k (w : World) {p : Program} {loose : List Str} {mean : ExcName → Option Value} {mg mb : Str → Option Value} (text : Str) (tk0 : Tok) (hlen : text.length ≤ 1048576) :
    Ctr PySem.Challenge.rw_pm0015_01.row.prog w (Mine.hd.heap_39 w.params) p loose mean mg mb 2 20 72 [.str text tk0] [] (P257 text)
      (fun cls vs => cls = .ref 44 ∧ vs = [.str text tk0] ∧ text.cps.toList.take 3 ≠ [50, 53, 55]) noErrN := by
  k_fill
  (k_dflt (refine' ctr_enter ?k6 ?k7 ?k9 ?kB ?_ ?c2 ?c3 ?c4 ?c5; (case k6 => k_is); (case k7 => k_is); (case k9 => exact fun _ => BindsTo.of_eq rfl); (case c5 => decide); (case kB => exact locs rfl); (case c2 => exact rfl); (case c3 => exact rfl); (case c4 => exact rfl); k_whole))
  intro dp un gd fr base g L h₁ s hd hu hg B F N X T hlt D
  (try dsimp only)
  k_fold
  k_steps
  all_goals (try unfold Hold)
  all_goals (rename (Txt.slice text none (some 3) != _) = _ => h3; rw [str_bne (x := Txt.slice text none (some 3)) (slice_ns text 3) (m := [50, 53, 55]) rfl] at h3)
  · (with_reducible rename RaisedS _ _ _ _ _ _ _ _ _ => R9)
    (with_reducible rename Heap.UpToSlots _ _ => U9)
    exact flew_S R9 U9 ⟨rfl, rfl, by simpa using h3⟩
  all_goals (replace h3 : text.cps.toList.take 3 = [50, 53, 55] := by simpa using h3)
  all_goals (rename (Txt.slice text (some 3) (some 5) != _) = _ => h5; rw [str_bne (x := Txt.slice text (some 3) (some 5)) (slice_ss text 3 5) (m := [32, 34]) rfl] at h5)
  · k_steps
    unfold Hold
    (with_reducible rename Fr _ _ _ _ => F9)
    exact ⟨_, _, [], rfl, F9, News.nil, .of h3 (by rw [v257, if_neg (by simpa using h5)]; rfl) _⟩
  · (with_reducible rename Fr _ _ _ _ => F9)
    (with_reducible rename News _ _ _ _ => N9)
    refine while_inv (fun k m news => inv257 text m k news) F9 N9 (n₀ := text.length - 5) (.mk 5 ⟨#[]⟩ _ _ _ _ (by rfl) (by rfl) (by rfl) (by rfl) (.start (by simpa using h5))) ?_
    clear F9 N9 h5
    rintro n m₁ news₁ h tk1 ⟨i, dn, t1, t2, t3, t4, hr, hii, hn, hdn, hat⟩ F N
    have hb1 := hat.h5
    have hb2 := hat.hi
    have hb3 := hat.hdl
    k_steps
    · rename (Txt.item text (i : Int) == _) = _ => hc
      rename (text.length : Int) ≤ (i : Int) + 1 => hl
      have hx := hat.one hc hl
      unfold Hold
      dsimp only [TurnEnd]
      k_steps
      unfold Hold
      (with_reducible rename Fr _ _ _ _ => F9)
      exact ⟨_, _, [], rfl, F9, News.nil, .of h3 hx _⟩
    · rename (Txt.item text (i : Int) == _) = _ => hc
      rename (Txt.item text ((i : Int) + 1) != _) = _ => hd1
      rename ¬ ((text.length : Int) ≤ (i : Int) + 1) => hl
      have hx := hat.two hc hl hd1
      unfold Hold
      dsimp only [TurnEnd]
      k_steps
      unfold Hold
      (with_reducible rename Fr _ _ _ _ => F9)
      exact ⟨_, _, [], rfl, F9, News.nil, .of h3 hx _⟩
    · unfold Hold
      rename (Txt.item text (i : Int) == _) = _ => hc
      rename (Txt.item text ((i : Int) + 1) != _) = _ => hd1
      rename ¬ ((text.length : Int) ≤ (i : Int) + 1) => hl
      rename (i : Int) < (text.length : Int) => hlt
      (with_reducible rename Fr _ _ _ _ => F9)
      (with_reducible rename News _ _ _ _ => N9)
      exact ⟨_, _, _, _, _, At57.lt2 hlt, rfl, F9, N9, .mk (i + 2) (dn ++ Txt.item text (i : Int)) _ _ _ _ (by exact hr) (by rfl) (by exact hn) (by rfl) (hat.dbl hc hl hd1)⟩
    · unfold Hold
      rename (Txt.item text (i : Int) == _) = _ => hc
      rename (i : Int) < (text.length : Int) => hlt
      (with_reducible rename Fr _ _ _ _ => F9)
      (with_reducible rename News _ _ _ _ => N9)
      exact ⟨_, _, _, _, _, At57.lt1 hlt, rfl, F9, N9, .mk (i + 1) (dn ++ Txt.item text (i : Int)) _ _ _ _ (by exact hr) (by rfl) (by exact hn) (by rfl) (hat.step hlt hc)⟩
    · rename ¬ ((i : Int) < (text.length : Int)) => hl
      have hx := hat.stop hl
      k_steps
      unfold Hold
      (with_reducible rename Fr _ _ _ _ => F9)
      exact ⟨_, _, [], rfl, F9, News.nil, .of h3 hx _⟩
-- part cinside
/-- how far the sign by sign walk has come -/
structure AtIn (text : Str) (op : Bool) (ins : Str) (i : Nat) : Prop where
  hi : i ≤ text.length
  hil : ins.length ≤ i
  hemp : op = false → ins.cps.toList = []
  heq : insideL text.cps.toList = insFrom op ins.cps.toList (text.cps.toList.drop i)
section
variable {text ins : Str} {op : Bool} {i c : Nat}
theorem AtIn.close (h : AtIn text op ins i) (hc : text.cps[i]? = some c) (ho : op = true) (hq : ((⟨#[c]⟩ : Str) == Str.ofString ")") = true) : strOf (insideL text.cps.toList) = ins := by
  have hcc := of_decide_eq_true (one_beq (d := 41) (by decide) hq)
  rw [h.heq, drop_at' hc, ho, hcc]
  simp [insFrom, tillClose, strOf]
theorem AtIn.more (h : AtIn text op ins i) (hc : text.cps[i]? = some c) (ho : op = true) (hq : ((⟨#[c]⟩ : Str) == Str.ofString ")") = false) : AtIn text true (ins ++ ⟨#[c]⟩) (i + 1) := by
  have hcc := of_decide_eq_false (one_beq (d := 41) (by decide) hq)
  refine ⟨at_lt hc, by rw [Str.length_append]; exact Nat.add_le_add_right h.hil 1, (fun h => nomatch h), ?_⟩
  rw [h.heq, drop_at' hc, ho, Str.cps_append]
  simp [insFrom, tillClose, hcc]
theorem AtIn.opens (h : AtIn text op ins i) (hc : text.cps[i]? = some c) (ho : op = false) (hq : ((⟨#[c]⟩ : Str) == Str.ofString "(") = true) : AtIn text true ins (i + 1) := by
  have hcc := of_decide_eq_true (one_beq (d := 40) (by decide) hq)
  refine ⟨at_lt hc, Nat.le_succ_of_le h.hil, (fun h => nomatch h), ?_⟩
  rw [h.heq, drop_at' hc, h.hemp ho, ho, hcc]
  simp [insFrom, insideL]
theorem AtIn.skip (h : AtIn text op ins i) (hc : text.cps[i]? = some c) (ho : op = false) (hq : ((⟨#[c]⟩ : Str) == Str.ofString "(") = false) : AtIn text op ins (i + 1) := by
  have hcc := of_decide_eq_false (one_beq (d := 40) (by decide) hq)
  refine ⟨at_lt hc, Nat.le_succ_of_le h.hil, h.hemp, ?_⟩
  rw [h.heq, drop_at' hc, h.hemp ho, ho]
  simp [insFrom, insideL, hcc]
theorem AtIn.fin (h : AtIn text op ins i) (hc : text.cps[i]? = none) : strOf (insideL text.cps.toList) = Str.ofString "" := by
  rw [h.heq, at_none hc, show Str.ofString "" = ⟨#[]⟩ from by decide +kernel]
  cases op <;> rfl
end
/-- what is given back -/
inductive InsP (text : Str) : Value → List (Addr × Obj) → Prop
  | mk (t : Tok) : InsP text (.str (strOf (insideL text.cps.toList)) t) []
theorem InsP.of {text x : Str} (e : strOf (insideL text.cps.toList) = x) (t : Tok) : InsP text (.str x t) [] := e ▸ .mk t
inductive insInv (text : Str) (tk : Tok) (I : Addr) (m : Str → Option Value) : Nat → List (Addr × Obj) → Prop
  | mk (i : Nat) (op : Bool) (ins : Str) (t : Tok) (oI : Obj) (hop : m (Str.ofString "opened") = some (.bool op)) (hins : m (Str.ofString "inside") = some (.str ins t)) (hSI : IsSI text tk i oI) (h : AtIn text op ins i) : insInv text tk I m (text.length - i) [(I, oI)]
theorem ins_turn {text : Str} {i c : Nat} (hc : text.cps[i]? = some c) : text.length - (i + 1) < text.length - i := Nat.sub_lt_sub_left (at_lt hc) (Nat.lt_succ_self i)
set_option maxRecDepth 100000 in
set_option maxHeartbeats 8000000 in
theorem inside_k (w : World) {p : Program} {loose : List Str} {mean : ExcName → Option Value} {mg mb : Str → Option Value} (text : Str) (tk0 : Tok) (hlen : text.length ≤ 1048576) :
    Ctr PySem.Challenge.rw_pm0015_01.row.prog w (Mine.hd.heap_39 w.params) p loose mean mg mb 2 20 140 [.str text tk0] [] (InsP text) noErr noErrN := by
  k_fill
  (k_dflt (refine' ctr_enter ?k6 ?k7 ?k9 ?kB ?_ ?c2 ?c3 ?c4 ?c5; (case k6 => k_is); (case k7 => k_is); (case k9 => exact fun _ => BindsTo.of_eq rfl); (case c5 => decide); (case kB => exact locs rfl); (case c2 => exact rfl); (case c3 => exact rfl); (case c4 => exact rfl); k_whole))
  intro dp un gd fr base g L h₁ s hd hu hg B F N X T hlt D
  (try dsimp only)
  k_fold
  k_steps
  unfold Hold
  refine for_inv (h₀ := g) ?_
  k_steps
  unfold Hold
  (with_reducible rename Fr _ _ _ _ => F)
  (with_reducible rename News _ _ _ _ => N)
  refine iter_str F N ?_
  intro I oI h' hI F1 N1 hl1
  refine ⟨fun k m news => insInv text tk0 I m k news, text.length, _, _, .mk 0 false (Str.ofString "") _ oI (by rfl) (by rfl) hI ⟨Nat.zero_le _, Nat.zero_le _, fun _ => by decide +kernel, by rw [show (Str.ofString "").cps.toList = [] from by decide +kernel]; rfl⟩, F1, N1, fun _ => rfl, ?_⟩
  clear F1 N1 hI oI hl1
  rintro n m₁ news₁ h tk1 ⟨i, op, ins, t, oI, hop, hins, hSI, hat⟩ F N
  have hil := hat.hil
  have hi := hat.hi
  refine next_str (env := envOf _ _ L _ _) rfl F N hSI (fun _ h => nomatch h) ?_ ?_
  · intro c u h' tk' oI' hc hSI' F N
    dsimp only
    refine wpAny_assign_Name ?_
    k_fold
    k_steps
    all_goals (unfold Hold; dsimp only [TurnEnd])
    all_goals (rename ((_ : Str) == _) = _ => hq)
    · rename op = true => ho
      have e := hat.close hc ho hq
      k_steps
      unfold Hold
      (with_reducible rename Fr _ _ _ _ => F9)
      exact ⟨_, _, [], rfl, F9, News.nil, .of e _⟩
    · rename op = true => ho
      (with_reducible rename Fr _ _ _ _ => F9)
      (with_reducible rename News _ _ _ _ => N9)
      exact ⟨_, _, _, _, _, ins_turn hc, rfl, F9, N9, .mk (i + 1) op (ins ++ ⟨#[c]⟩) _ oI' (by exact hop) (by rfl) hSI' (ho ▸ hat.more hc ho hq)⟩
    · rename op = false => ho
      (with_reducible rename Fr _ _ _ _ => F9)
      (with_reducible rename News _ _ _ _ => N9)
      exact ⟨_, _, _, _, _, ins_turn hc, rfl, F9, N9, .mk (i + 1) true ins _ oI' (by rfl) (by exact hins) hSI' (hat.opens hc ho hq)⟩
    · rename op = false => ho
      (with_reducible rename Fr _ _ _ _ => F9)
      (with_reducible rename News _ _ _ _ => N9)
      exact ⟨_, _, _, _, _, ins_turn hc, rfl, F9, N9, .mk (i + 1) op ins _ oI' (by exact hop) (by exact hins) hSI' (hat.skip hc ho hq)⟩
  · intro h' tk' hc F N
    have e := hat.fin hc
    dsimp only
    k_steps
    unfold Hold
    exact ⟨_, _, [], rfl, F, News.nil, .of e _⟩
-- part c229
noncomputable def Form229 (text : Str) : Prop := port229 (insideL text.cps.toList) = none
/-- what parse229 gives back -/
inductive P229 (text host : Str) (th : Tok) : Value → List (Addr × Obj) → Prop
  | mk (h3 : text.cps.toList.take 3 = [50, 50, 57]) (y : List Nat) (n : Int) (a : Addr) (tn : Tok) (hp : port229 (insideL text.cps.toList) = some y) (hi : PySem.intText? (strOf y) = some n) : P229 text host th (.ref a) [(a, { cls := .type "tuple", data := .seq #[.str host th, .int n tn] })]
/-- between its statements -/
inductive Mid229 (g : Heap) (L pr : Addr) (oP : Obj) (text : Str) (tk0 : Tok) (s : Shared) (P : (Str → Option Value) → Prop) : Flow → Shared → Prop
  | mk (h : Heap) (tk : Nat) (m : Str → Option Value) (F : Fr g L h m) (N : News g L h [(pr, oP)]) (h1 : m (Str.ofString "resp") = some (.str text tk0)) (h2 : m (Str.ofString "peer") = some (.ref pr)) (p : P m) : Mid229 g L pr oP text tk0 s P .next { s with heap := h, toks := tk }
theorem slice_len {x y : Str} {f r : Nat} (h : y.cps.toList = (x.cps.toList.drop f).take r) : y.length ≤ x.length := by
  have e := congrArg List.length h
  rw [List.length_take, List.length_drop, Array.length_toList, Array.length_toList] at e
  show y.cps.size ≤ x.cps.size
  exact e ▸ Nat.le_trans (Nat.min_le_right ..) (Nat.sub_le ..)
theorem repr_fit {y text : Str} (hl : y.length ≤ 640) (h : ∀ c ∈ y.cps.toList, c < 16 ^ 8) : (reprText y).length ≤ sizeLine := by
  refine Nat.le_trans (StrLaws.reprText_len y h) ?_
  have : sizeLine = 16777216 := by decide +kernel
  omega
set_option maxRecDepth 100000 in
set_option maxHeartbeats 8000000 in
theorem p229_k (w : World) {p : Program} {loose : List Str} {mean : ExcName → Option Value} {mg mb : Str → Option Value} (text : Str) (tk0 : Tok) (pr : Addr) (host : Str) (th ti : Tok) (hlen : text.length ≤ 600) (hsg : ∀ c ∈ text.cps.toList, c < 16 ^ 8) :
    CtrP PySem.Challenge.rw_pm0015_01.row.prog w (Mine.hd.heap_39 w.params) p loose mean mg mb 2 20 65 [.str text tk0, .ref pr] [(pr, { cls := .type "tuple", data := .seq #[.str host th, .int 21 ti] })]
      (P229 text host th)
      (fun cls vs => vs = [.str text tk0] ∧ ((cls = .ref 44 ∧ text.cps.toList.take 3 ≠ [50, 50, 57]) ∨ (cls = .ref 56 ∧ text.cps.toList.take 3 = [50, 50, 57] ∧ Form229 text)))
      (fun X => X = "ValueError" ∧ text.cps.toList.take 3 = [50, 50, 57] ∧ ∃ y, port229 (insideL text.cps.toList) = some y ∧ PySem.intText? (strOf y) = none) := by
  k_fill
  (k_dflt (refine' ctrP_enter ?k6 ?k7 ?k9 ?kB ?_ ?c2 ?c3 ?c4 ?c5; (case k6 => k_is); (case k7 => k_is); (case k9 => exact fun _ => BindsTo.of_eq rfl); (case c5 => decide); (case kB => exact locs rfl); (case c2 => exact rfl); (case c3 => exact rfl); (case c4 => exact rfl); k_whole))
  intro dp un gd fr base g L h₁ s hd hu hg B F N X T hlt D
  (try dsimp only)
  refine wpP_split 9 ?_
  dsimp only [List.take, List.drop]
  k_fold
  have e3 : ∀ {b : Bool}, (Txt.slice text none (some 3) != Str.ofString "229") = b → (!decide (text.cps.toList.take 3 = [50, 50, 57])) = b := fun h => by
    rwa [str_bne (x := Txt.slice text none (some 3)) (slice_ns text 3) (m := [50, 50, 57]) rfl] at h
  refine wpAny_execs_cons (wpAny_mono (Q := fun fl s' => Mid229 g L pr { cls := .type "tuple", data := .seq #[.str host th, .int 21 ti] } text tk0 s (fun _ => text.cps.toList.take 3 = [50, 50, 57]) fl s') ?m1 (fun fl s' hm => ?r1) (fun _ _ e => e))
  (case m1 =>
    k_steps
    all_goals (try unfold Hold)
    all_goals (rename (Txt.slice text none (some 3) != _) = _ => h3; replace h3 := e3 h3)
    · ((with_reducible rename RaisedS _ _ _ _ _ _ _ _ _ => R9); (with_reducible rename Heap.UpToSlots _ _ => U9))
      exact flew_S R9 U9 ⟨rfl, .inl ⟨rfl, by simpa using h3⟩⟩
    · (with_reducible rename Fr _ _ _ _ => F9)
      (with_reducible rename News _ _ _ _ => N9)
      exact .mk _ _ _ F9 N9 (by rfl) (by rfl) (by simpa using h3))
  clear N F e3
  obtain ⟨h₂, tk₂, m₂, F, N, hm1, hm2, h3⟩ := hm
  dsimp only
  refine wpAny_execs_cons (wpAny_mono (Q := fun fl s' => Mid229 g L pr { cls := .type "tuple", data := .seq #[.str host th, .int 21 ti] } text tk0 s (fun m => ∃ t, m (Str.ofString "left") = some (.int (Txt.find text (Str.ofString "(")) t)) fl s') ?m2 (fun fl s' hm => ?r2) (fun _ _ e => e))
  (case m2 =>
    k_steps
    (try unfold Hold)
    (with_reducible rename Fr _ _ _ _ => F9)
    (with_reducible rename News _ _ _ _ => N9)
    exact .mk _ _ _ F9 N9 (by exact hm1) (by exact hm2) ⟨_, rfl⟩)
  clear F N hm1 hm2
  obtain ⟨h₃, tk₃, m₃, F, N, hm1, hm2, tl, hm3⟩ := hm
  dsimp only
  rcases find_cases text (Str.ofString "(") 40 (by decide) with ⟨hf, hfn⟩ | ⟨f, hf, hfl, hfa, hfn⟩
  · k_steps
    (try unfold Hold)
    (with_reducible rename RaisedS _ _ _ _ _ _ _ _ _ => R9)
    (with_reducible rename Heap.UpToSlots _ _ => U9)
    exact flew_S R9 U9 ⟨rfl, .inr ⟨rfl, h3, port_empty (insideL_none _ hfn)⟩⟩
  have hfi : Txt.find text (Str.ofString "(") + 1 = ((f + 1 : Nat) : Int) := by rw [hf]; rfl
  rcases find3_cases text (Str.ofString ")") 41 (f + 1) (by decide) (by omega) with ⟨hr, hrn⟩ | ⟨r, hr, hrf, hrl, hra, hrn⟩
  · rw [← hfi] at hr
    k_steps
    (try unfold Hold)
    (with_reducible rename RaisedS _ _ _ _ _ _ _ _ _ => R9)
    (with_reducible rename Heap.UpToSlots _ _ => U9)
    exact flew_S R9 U9 ⟨rfl, .inr ⟨rfl, h3, port_empty (by rw [inside_open hfa hfn, tillClose_none _ _ hrn])⟩⟩
  have hb := inside_both hfa hfn hra hrf hrn
  obtain ⟨c, hc⟩ := has_at (x := text) (i := f + 1) (by omega)
  obtain ⟨d, hd'⟩ := has_at (x := text) (i := r - 1) (by omega)
  obtain ⟨pe1, pe2⟩ := port_ends hfa hra hrf hc hd'
  rw [← hb] at pe1 pe2
  have i1 : Txt.item text (Txt.find text (Str.ofString "(") + 1) = ⟨#[c]⟩ := by rw [hfi]; exact item_at hc
  have i2 : Txt.item text (Txt.find3 text (Str.ofString ")") (Txt.find text (Str.ofString "(") + 1) - 1) = ⟨#[d]⟩ := by
    rw [hfi, hr, show ((r : Int) - 1) = ((r - 1 : Nat) : Int) by omega]; exact item_at hd'
  have i3 : (Txt.slice text (some (Txt.find text (Str.ofString "(") + 1)) (some (Txt.find3 text (Str.ofString ")") (Txt.find text (Str.ofString "(") + 1)))).cps.toList = insideL text.cps.toList := by
    rw [hfi, hr, slice_ss, hb]
  have e4 : ∀ {b : Bool}, (Txt.item text (Txt.find text (Str.ofString "(") + 1) != Txt.item text (Txt.find3 text (Str.ofString ")") (Txt.find text (Str.ofString "(") + 1) - 1)) = b → decide (c ≠ d) = b := fun h => by
    rw [i1] at h; exact one_bne i2 h
  rw [← hfi] at hr
  k_steps
  all_goals (try unfold Hold)
  · ((with_reducible rename RaisedS _ _ _ _ _ _ _ _ _ => R9); (with_reducible rename Heap.UpToSlots _ _ => U9))
    rename (Txt.item text _ != _) = _ => h4
    exact flew_S R9 U9 ⟨rfl, .inr ⟨rfl, h3, pe1 (of_decide_eq_true (e4 h4))⟩⟩
  · ((with_reducible rename RaisedS _ _ _ _ _ _ _ _ _ => R9); (with_reducible rename Heap.UpToSlots _ _ => U9))
    rename (Txt.item text _ != _) = _ => h4
    have h5 := of_decide_eq_false (e4 h4)
    obtain ⟨rest, h6, h7⟩ := pe2 (Decidable.of_not_not h5)
    rename List.map _ _ = Txt.split _ _ => hlk
    rename ((List.length _ : Nat) : Int) ≠ 5 => hl5
    have hn := congrArg List.length hlk
    rw [List.length_map, i1] at hn
    refine flew_S R9 U9 ⟨rfl, .inr ⟨rfl, h3, ?_⟩⟩
    show port229 _ = none
    rw [h6]
    exact (port_parts (i3.trans h6) h7).1 (by omega)
  · rename (Txt.item text _ != _) = _ => h4
    have h5 := of_decide_eq_false (e4 h4)
    obtain ⟨rest, h6, h7⟩ := pe2 (Decidable.of_not_not h5)
    rename List.map _ _ = Txt.split _ _ => hlk
    rename ((List.length _ : Nat) : Int) = 5 => hl5
    have hn := congrArg List.length hlk
    rw [List.length_map, i1] at hn
    refine wpP_execs_cons (wpP_Assign (wpP_Call ?_))
    k_steps
    unfold Hold
    refine wpP_callWith_type1 ?_
    k_steps
    unfold Hold
    rename Str => y
    rename (List.map _ _)[_]? = some _ => hy
    rename StrsAre _ _ => hsa
    rename ∀ _ ∈ List.map _ _, Str.length _ ≤ _ => hle
    have hyl := hle _ (List.mem_of_getElem? hy)
    (rename List.map _ _ = Txt.split _ _ => hlk)
    rw [hlk, i1] at hy
    have hport : port229 (insideL text.cps.toList) = some y.cps.toList := by
      rw [h6]; exact (port_parts (i3.trans h6) h7).2 y (by omega) hy
    have hsl := slice_len (i3.trans hb)
    have h640 : y.length ≤ 640 := Nat.le_trans (Nat.le_trans hyl hsl) (Nat.le_trans hlen (by decide))
    have hrp := repr_fit (text := text) h640 (fun a ha => hsg a (insideL_mem _ a (port_mem hport a ha)))
    cases hq : PySem.intText? y with
    | none =>
      refine int_bad rfl h640 hq hrp ?_
      intro h'' tk'' e hx
      (with_reducible rename Fr _ _ _ _ => F9)
      (with_reducible rename News _ _ _ _ => N9)
      refine leave_newS B hx F9 N9 ?_
      intro h4 R _ U
      exact flew_N R U ⟨rfl, h3, _, hport, by rw [strOf_toList]; exact hq⟩
    | some n =>
      refine wpP_any (KIN.call_text hq h640 ?_)
      dsimp only
      k_fold
      k_steps
      unfold Hold
      refine wpP_any ?_
      k_fold
      k_steps
      unfold Hold
      show Lv s g _ _ _
      (with_reducible rename Fr _ _ _ _ => F9)
      (with_reducible rename News _ _ _ _ => N9)
      exact ⟨_, _, _, rfl, F9, news_pick N9 [0] (M := [_]) rfl, .mk h3 _ n _ _ hport (by rw [strOf_toList]; exact hq)⟩
-- part cport
noncomputable def strTy (x : Str) (t : Tok) : Value := .str x t
noncomputable def lstO (vs : List Value) : Obj := { cls := .type "list", data := .seq vs.toArray }
noncomputable def tupO (vs : List Value) : Obj := { cls := .type "tuple", data := .seq vs.toArray }
/-- what tells of the port of a reply -/
inductive PortO (text host : Str) : Obj → Prop
  | code (h3 : text.cps.toList.take 3 ≠ [50, 50, 57]) (t1 t2 : Tok) : PortO text host (lstO [.str (Str.ofString "code") t1, .str text t2])
  | form (h3 : text.cps.toList.take 3 = [50, 50, 57]) (hp : port229 (insideL text.cps.toList) = none) (t1 t2 : Tok) : PortO text host (lstO [.str (Str.ofString "form") t1, .str text t2])
  | number (h3 : text.cps.toList.take 3 = [50, 50, 57]) (y : List Nat) (hp : port229 (insideL text.cps.toList) = some y) (hi : PySem.intText? (strOf y) = none) (t1 : Tok) : PortO text host (lstO [.str (Str.ofString "number") t1])
  | pair (h3 : text.cps.toList.take 3 = [50, 50, 57]) (y : List Nat) (n : Int) (hp : port229 (insideL text.cps.toList) = some y) (hi : PySem.intText? (strOf y) = some n) (t1 t2 : Tok) : PortO text host (tupO [.str host t1, .int n t2])
/-- what the port of a reply is -/
inductive PortIs (text host : Str) : Value → List (Addr × Obj) → Prop
  | mk (a : Addr) (o : Obj) (h : PortO text host o) : PortIs text host (.ref a) [(a, o)]
set_option maxRecDepth 100000 in
set_option maxHeartbeats 8000000 in
theorem port_k (w : World) {p : Program} {loose : List Str} {mean : ExcName → Option Value} {mg mb : Str → Option Value} (text : Str) (tk0 : Tok) (pr : Addr) (host : Str) (th ti : Tok) (hlen : text.length ≤ 600) (hsg : ∀ c ∈ text.cps.toList, c < 16 ^ 8) :
    CtrT PySem.Challenge.rw_pm0015_01.row.prog w (Mine.hd.heap_39 w.params) p loose mean mg mb 4 60 166 [.str text tk0, .ref pr] [(pr, { cls := .type "tuple", data := .seq #[.str host th, .int 21 ti] })] (PortIs text host) := by
  k_fill
  (k_dflt (refine' ctrT_enter ?k6 ?k7 ?k9 ?kB ?_ ?c2 ?c3 ?c4 ?c5; (case k6 => k_is); (case k7 => k_is); (case k9 => exact fun _ => BindsTo.of_eq rfl); (case c5 => decide); (case kB => exact locs rfl); (case c2 => exact rfl); (case c3 => exact rfl); (case c4 => exact rfl); k_whole))
  intro dp un gd fr base g L h₁ s hd hu hg B F N XB TB X T hlt D
  (try dsimp only)
  refine wpP_execs_cons (wpP_Try (wpP_execs_cons (wpP_Return (wpP_Call ?_))))
  k_fold
  k_steps
  unfold Hold
  refine wpP_callWith_fn2 ?_
  k_fold
  k_steps
  unfold Hold
  (with_reducible rename Fr _ _ _ _ => F)
  (with_reducible rename News _ _ _ _ => N)
  refine' ⟨fn_at (f := 65) X F ?k6, ?_⟩
  (case k6 => k_is)
  refine ctrP_useE (p229_k w text tk0 pr host th ti hlen hsg) B F X T D N ?_ ?_ ?_ ?_ ?_ ?_ ?_
  · exact rfl
  · exact rfl
  · exact lt_up 3 hd rfl
  · exact lt_up 23 hu rfl
  · exact fun _ h => nomatch h
  · rintro v own' h' tk' ⟨h3, y, n, a, tn, hp, hi⟩ F1 N1 _
    exact Lv.T ⟨L, _, _, rfl, F1, N1, .mk _ _ (.pair h3 y n hp hi th tn)⟩
  · rintro v h' tk' FG ⟨_, U, r⟩
    clear F N hlt hg
    rcases r with ⟨e, t, cls, vs, rfl, R, rfl, ⟨rfl, h3⟩ | ⟨rfl, h3, hf⟩⟩ | ⟨e, X', rfl, R, rfl, h3, y, hp, hi⟩
    · (repeat k_unfold); dsimp only
      k_fold
      k_steps
      (with_reducible rename Got _ _ _ _ _ => G9)
      obtain ⟨oe, ot, ws, nt, hoe, hot, hc, hd9, h0, hct, hdt⟩ := G9
      (with_reducible rename Fr _ _ _ _ => F9)
      (with_reducible rename Frag.In _ _ => X9)
      rename List (Addr × Obj) => news₂
      rename News _ _ _ news₂ => N9
      refine' str_exc ?hu (X9.keeps F9.keep) ?hs ?hm (N9 _ hoe).1 hc hd9 h0 (N9 _ hot).1 hdt ?_
      (case hs => k_is)
      (case hm => k_is)
      (case hu => exact lt_up 5 hu rfl)
      (repeat k_unfold); (try dsimp only)
      k_fold
      k_steps
      (try unfold Hold)
      (with_reducible rename Fr _ _ _ _ => F8)
      (with_reducible rename News _ _ _ _ => N8)
      (with_reducible rename KtsTurn _ _ _ => T8)
      exact ⟨_, L, _, _, rfl, T8, F8, N8, .mk _ _ (.code h3 _ _)⟩
    · (repeat k_unfold); dsimp only
      k_fold
      k_steps
      (with_reducible rename Got _ _ _ _ _ => G9)
      obtain ⟨oe, ot, ws, nt, hoe, hot, hc, hd9, h0, hct, hdt⟩ := G9
      (with_reducible rename Fr _ _ _ _ => F9)
      (with_reducible rename Frag.In _ _ => X9)
      rename List (Addr × Obj) => news₂
      rename News _ _ _ news₂ => N9
      refine' str_exc ?hu (X9.keeps F9.keep) ?hs ?hm (N9 _ hoe).1 hc hd9 h0 (N9 _ hot).1 hdt ?_
      (case hs => k_is)
      (case hm => k_is)
      (case hu => exact lt_up 5 hu rfl)
      (repeat k_unfold); (try dsimp only)
      k_fold
      k_steps
      (try unfold Hold)
      (with_reducible rename Fr _ _ _ _ => F8)
      (with_reducible rename News _ _ _ _ => N8)
      (with_reducible rename KtsTurn _ _ _ => T8)
      exact ⟨_, L, _, _, rfl, T8, F8, N8, .mk _ _ (.form h3 hf _ _)⟩
    · (repeat k_unfold); dsimp only
      k_fold
      k_steps
      (try unfold Hold)
      (with_reducible rename Fr _ _ _ _ => F8)
      (with_reducible rename News _ _ _ _ => N8)
      (with_reducible rename KtsTurn _ _ _ => T8)
      exact ⟨_, L, _, _, rfl, T8, F8, N8, .mk _ _ (.number h3 y hp hi _)⟩
-- part cname
/-- what the name of a reply is -/
inductive NameIs (text : Str) : Value → List (Addr × Obj) → Prop
  | code (h3 : text.cps.toList.take 3 ≠ [50, 53, 55]) (a : Addr) (t1 t2 : Tok) : NameIs text (.ref a) [(a, lstO [.str (Str.ofString "code") t1, .str text t2])]
  | name (h3 : text.cps.toList.take 3 = [50, 53, 55]) (t : Tok) : NameIs text (.str (v257 text) t) []
set_option maxRecDepth 100000 in
set_option maxHeartbeats 8000000 in
theorem name_k (w : World) {p : Program} {loose : List Str} {mean : ExcName → Option Value} {mg mb : Str → Option Value} (text : Str) (tk0 : Tok) (hlen : text.length ≤ 600) :
    CtrT PySem.Challenge.rw_pm0015_01.row.prog w (Mine.hd.heap_39 w.params) p loose mean mg mb 4 60 159 [.str text tk0] [] (NameIs text) := by
  k_fill
  (k_dflt (refine' ctrT_enter ?k6 ?k7 ?k9 ?kB ?_ ?c2 ?c3 ?c4 ?c5; (case k6 => k_is); (case k7 => k_is); (case k9 => exact fun _ => BindsTo.of_eq rfl); (case c5 => decide); (case kB => exact locs rfl); (case c2 => exact rfl); (case c3 => exact rfl); (case c4 => exact rfl); k_whole))
  intro dp un gd fr base g L h₁ s hd hu hg B F N XB TB X T hlt D
  (try dsimp only)
  refine wpP_any ?_
  k_fold
  k_steps
  unfold Hold
  refine ctr_useE (rest := []) (p257_k w text tk0 (by omega)) B F X T D N rfl rfl ?_ ?_ ?_ ?_ ?_
  · exact lt_up 3 hd rfl
  · exact lt_up 23 hu rfl
  · exact fun _ h => nomatch h
  · rintro v own' h' tk' ⟨h3, tv⟩ F1 N1 _
    exact Lv.T ⟨L, _, _, rfl, F1, N1, .name h3 _⟩
  · rintro v h' tk' FG ⟨_, U, r⟩
    clear F N hlt hg
    rcases r with ⟨e, t, cls, vs, rfl, R, rfl, rfl, h3⟩ | ⟨e, X', rfl, R, h⟩
    · (repeat k_unfold); dsimp only
      k_fold
      k_steps
      (with_reducible rename Got _ _ _ _ _ => G9)
      obtain ⟨oe, ot, ws, nt, hoe, hot, hc, hd9, h0, hct, hdt⟩ := G9
      (with_reducible rename Fr _ _ _ _ => F9)
      (with_reducible rename Frag.In _ _ => X9)
      rename List (Addr × Obj) => news₂
      rename News _ _ _ news₂ => N9
      refine' str_exc ?hu (X9.keeps F9.keep) ?hs ?hm (N9 _ hoe).1 hc hd9 h0 (N9 _ hot).1 hdt ?_
      (case hs => k_is)
      (case hm => k_is)
      (case hu => exact lt_up 5 hu rfl)
      (repeat k_unfold); (try dsimp only)
      k_fold
      k_steps
      (try unfold Hold)
      (with_reducible rename Fr _ _ _ _ => F8)
      (with_reducible rename News _ _ _ _ => N8)
      (with_reducible rename KtsTurn _ _ _ => T8)
      exact ⟨_, L, _, _, rfl, T8, F8, N8, .code h3 _ _ _⟩
    · exact h.elim
-- part cinit
/-- what a new lexer holds -/
inductive InitP (lx : Addr) (w : World) (x dx : Addr) (fp : Value) : Value → List (Addr × Obj) → Prop
  | mk (pb : Addr) (t1 t2 t3 t4 t5 t6 : Tok) (h : x < pb) : InitP lx w x dx fp .none [(pb, W.listOf #[] 0), (x, instObj lx dx), (dx, lexD w 1 fp pb t1 t2 t3 t4 t5 t6)]
theorem InitP.none {lx : Addr} {w : World} {x dx : Addr} {fp v : Value} {own' : List (Addr × Obj)} (h : InitP lx w x dx fp v own') : v = .none := by cases h; rfl
set_option maxRecDepth 100000 in
set_option maxHeartbeats 8000000 in
theorem init_k (w : World) {p : Program} {loose : List Str} {mean : ExcName → Option Value} {mg mb : Str → Option Value} (x dx : Addr) (hdx : dx < x) (fp : Value) :
    Ctr PySem.Challenge.rw_pm0015_01.row.prog w (Mine.hd.heap_39 w.params) p loose mean mg mb 2 20 86 [.ref x, fp] [(x, instObj 110 dx), (dx, dictOf [] 0)]
      (InitP 110 w x dx fp) noErr noErrN := by
  k_fill
  (k_dflt (refine' ctr_enter ?k6 ?k7 ?k9 ?kB ?_ ?c2 ?c3 ?c4 ?c5; (case k6 => k_is); (case k7 => k_is); (case k9 => exact fun _ => BindsTo.of_eq rfl); (case c5 => decide); (case kB => exact locs rfl); (case c2 => exact rfl); (case c3 => exact rfl); (case c4 => exact rfl); k_whole))
  intro dp un gd fr base g L h₁ s hd hu hg B F N X T hlt D
  (try dsimp only)
  k_fold
  have hdx := ltN hdx
  k_steps
  (with_reducible rename Fr _ _ _ _ => F9)
  (with_reducible rename News _ _ _ _ => N9)
  rename _ ∧ _ => hl9
  exact ⟨L, _, _, rfl, F9, N9, .mk _ _ _ _ _ _ _ hl9.1⟩
-- part clexer
/-- behind the stream -/
inductive LexMid1 (w : World) (lx : Addr) (g : Heap) (L S : Addr) (tl : List (Addr × Obj)) (l : List (Nat × Tok)) (n : Nat) (oc : Obj) (s : Shared) : Flow → Shared → Prop
  | mk (h : Heap) (tk : Nat) (m : Str → Option Value) (y dy : Addr) (fp : Value) (pb : Addr) (t1 t2 t3 t4 t5 t6 : Tok) (F : Fr g L h m) (hm : m (Str.ofString "stream") = some (.ref y))
    (N : News g L h ((y, instObj lx dy) :: (dy, lexD w 1 fp pb t1 t2 t3 t4 t5 t6) :: (L + 1, oc) :: (tl ++ [(S, lstS l n)]))) (hy : @LT.lt Nat _ dy y) (hlt : ∀ q ∈ ((L + 1, oc) :: (tl ++ [(S, lstS l n)])), q.1 < dy) : LexMid1 w lx g L S tl l n oc s .next { s with heap := h, toks := tk }
/-- behind its read -/
inductive LexMid2 (prog : Program) (w : World) (K : Frag) (p : Program) (loose : List Str) (mean : ExcName → Option Value) (mg mb : Str → Option Value) (lx P a b : Addr) (g : Heap) (L S cl : Addr) (l : List (Nat × Tok)) (n : Nat) (ocl : Obj) (s : Shared) : Flow → Shared → Prop
  | mk (h : Heap) (tk : Nat) (m : Str → Option Value) (y dy f : Addr) (q : LamD) (oc ody : Obj) (F : Fr g L h m) (hm : m (Str.ofString "stream") = some (.ref y))
    (N : News g L h [(f, lamO q), (q.c, oc), (y, instObj lx dy), (dy, ody), (cl, ocl), (P, tabO a b q.c), (S, lstS l n)]) (hs : IsStrD w f ody) (hc : IsCode (Str.ofString "_law_lexer.<locals>.<lambda>") oc) (hr : ReadC prog w K p loose mean mg mb f cl S q ocl oc)
    (o1 : @LT.lt Nat _ S dy) (o2 : @LT.lt Nat _ cl dy) (o3 : @LT.lt Nat _ dy y) (o4 : @LT.lt Nat _ y f) (o5 : @LT.lt Nat _ q.c f) (o6 : @LT.lt Nat _ q.c S ∧ @LT.lt Nat _ q.c cl ∨ @LT.lt Nat _ y q.c) (o7 : P < q.c) : LexMid2 prog w K p loose mean mg mb lx P a b g L S cl l n ocl s .next { s with heap := h, toks := tk }
set_option maxRecDepth 100000 in
set_option maxHeartbeats 8000000 in
theorem lexer_k (w : World) {p : Program} {loose : List Str} {mean : ExcName → Option Value} {mg mb : Str → Option Value} (S : Addr) (tl : List (Addr × Obj)) (htl : Tabs 123 96 18 tl) (hnd : ∀ q ∈ tl, q.1 < S) (l : List (Nat × Tok)) (n : Nat) :
    Ctr PySem.Challenge.rw_pm0015_01.row.prog w (Mine.hd.heap_39 w.params) p loose mean mg mb 6 90 128 [.ref S] (tl ++ [(S, lstS l n)]) (LexNew PySem.Challenge.rw_pm0015_01.row.prog w (Mine.hd.heap_39 w.params) p loose mean mg mb 110 123 96 18 S l n) noErr noErrN := by
  k_fill
  ((k_dflt (refine' ctr_enterC ?k6 ?k7 ?k9 ?kB ?kD ?_ ?c2 ?c3 ?c4; (case k6 => k_is); (case k7 => k_is); (case k9 => exact fun _ => BindsTo.of_eq rfl); (case kB => exact rfl); (case kD => decide +kernel); (case c2 => exact rfl); (case c3 => exact rfl); (case c4 => exact rfl); k_whole)))
  intro dp un gd fr base g L h₁ s tk cells hd hu hg B F N Y X T hlt D
  k_cells Y
  rename _ = Data.cell _ => d1
  rename Obj => ocl9
  (try dsimp only)
  have hCo : CodeHd g 127 123 := codeHd_of X (by kernel_rfl)
  (with_reducible show wpAny _ _ _ _ _ _)
  refine capture (fun ps bd sc => ∀ (f cl S c : Addr) (nm ql : Str) (pm ctv : Value) (oc ocl : Obj) (vs : Array Value) (t : Tok), oc.data = .fields vs → vs[1]? = some (.str ql t) → ocl.data = .cell (some (.ref S)) → f ≠ S → c ≠ S → cl ≠ S →
    ReadC PySem.Challenge.rw_pm0015_01.row.prog w (Mine.hd.heap_39 w.params) p loose mean mg mb f cl S ⟨nm, ql, ps, bd, sc, [(Str.ofString "signs", cl)], pm, c, ctv⟩ ocl oc) ?_ ?_
  · clear D hlt T X N F B hg hu hd hnd
    intro f cl S c nm ql pm ctv oc ocl vs t e1 e2 e3 n1 n2 n3
    intro l n t hl
    have hz : l.length ≤ sizeLine := Nat.le_trans hl (by decide +kernel)
    rcases l with _ | ⟨⟨c, u⟩, r⟩
    · skip
      k_fill
      ((k_dflt (refine' ctr_enterL ?k6 ?k7 ?k8 ?k9 ?kA ?kB ?_ ?c2 ?c3 ?c4 ?c5; (case k6 => k_mem); (case k7 => k_mem); (case k8 => assumption); (case k9 => assumption); (case kA => exact rfl); (case c5 => (dsimp only; decide)); (case kB => exact locs rfl); (case c2 => exact rfl); (case c3 => exact rfl); (case c4 => exact rfl); k_whole)))
      intro dp un gd fr base g L h₁ s hd hu hg B F N X T hlt D
      generalize hbig : lamO _ = big at N
      clear hg hlt
      (try dsimp only)
      (((try dsimp only); (with_reducible show wpAny _ _ _ _ _ _); k_fold))
      k_steps
      (try unfold Hold)
      (with_reducible rename Fr _ _ _ _ => F8)
      (with_reducible rename News _ _ _ _ => N8)
      subst hbig
      exact ⟨L, _, _, rfl, F8, N8, .nil n _⟩
    · rw [show lstS ((c, u) :: r) n = W.listOf (sigs r ++ [Value.str ⟨#[c]⟩ u]).toArray n from by rw [lstS, sigs_cons]]
      k_fill
      ((k_dflt (refine' ctr_enterL ?k6 ?k7 ?k8 ?k9 ?kA ?kB ?_ ?c2 ?c3 ?c4 ?c5; (case k6 => k_mem); (case k7 => k_mem); (case k8 => assumption); (case k9 => assumption); (case kA => exact rfl); (case c5 => (dsimp only; decide)); (case kB => exact locs rfl); (case c2 => exact rfl); (case c3 => exact rfl); (case c4 => exact rfl); k_whole)))
      intro dp un gd fr base g L h₁ s hd hu hg B F N X T hlt D
      generalize hbig : lamO _ = big at N
      clear hg hlt
      (try dsimp only)
      (((try dsimp only); (with_reducible show wpAny _ _ _ _ _ _); k_fold))
      k_steps
      have hll : (sigs r ++ [Value.str ⟨#[c]⟩ u]).length < 2 ^ 62 := by
        rw [List.length_append, sigs_len]
        have : (List.length ((c, u) :: r)) ≤ 5000 := hl
        simp only [List.length_cons, List.length_nil] at this ⊢
        omega
      refine kgr_truthy N (.tail _ (.tail _ (.tail _ (.head _)))) rfl rfl hll ?_
      rw [show (!(sigs r ++ [Value.str ⟨#[c]⟩ u]).isEmpty) = true from by cases sigs r <;> rfl, if_pos rfl]
      (((try dsimp only); (with_reducible show wpAny _ _ _ _ _ _); k_fold))
      k_steps
      try any_goals (first | exact Str.empty | exact Value.none | exact (0 : Nat))
      dsimp only
      (with_reducible rename Fr _ _ _ _ => F9)
      (with_reducible rename News _ _ _ _ => N9)
      have hz2 : (sigs r ++ [Value.str ⟨#[c]⟩ u]).length ≤ sizeLine := by
        rw [List.length_append, sigs_len]; exact hz
      refine' kl_pop F9 N9 (p := sigs r) (y := Value.str ⟨#[c]⟩ u) ?e ?U ?z ?_
      (case e => exact kpa_last _ _)
      (case U => exact .tail n1 (.tail n2 (.tail n3 (.head (List.forall_mem_nil _)))))
      (case z => simpa using hz2)
      intro h' F' N'
      show Lv s g _ _ _
      subst hbig
      exact ⟨L, _, _, rfl, F', N', .cons (c, u) r n⟩
  · intro hread
    have hSL : @LT.lt Nat _ S L := hlt (S, lstS l n) (List.mem_append_right tl (List.mem_cons_self ..))
    have hPS : @LT.lt Nat _ 123 S ∧ @LT.lt Nat _ 123 L := by
      rcases htl with rfl | ⟨c0, oc0, vs0, t0, hPc, rfl, e1, e2⟩
      · exact ⟨hnd _ (List.mem_cons_self ..), hlt _ (List.mem_cons_self ..)⟩
      · exact ⟨hnd _ (List.mem_cons_self ..), hlt _ (List.mem_cons_self ..)⟩
    refine wpAny_execs_cons (wpAny_mono (Q := fun fl s' => LexMid1 w 110 g L S tl l n ocl9 s fl s') ?m1 (fun fl s' hm => ?r1) (fun _ _ e => e))
    (case m1 =>
      clear hread hPS hSL htl hnd
      (((try dsimp only); (with_reducible show wpAny _ _ _ _ _ _); k_fold))
      k_steps
      unfold Hold
      refine' cls_use (own := []) (fun x dx hdx => init_k w x dx hdx _) (fun _ _ _ _ h => h.none) B F X T D N ?a1 ?a2 ?a3 ?a4 ?a5 ?a6 ?a7 ?a8 ?_
      (case a1 => rfl)
      (case a2 => rfl)
      (case a3 => k_is)
      (case a4 => k_is)
      (case a5 => k_is)
      (case a6 => exact lt_up 4 hd rfl)
      (case a7 => exact lt_up 24 hu rfl)
      (case a8 => exact fun _ _ h => nomatch h)
      rintro y dy own' h' tk' hdy ⟨pb, t1, t2, t3, t4, t5, t6, hpb⟩ F1 N1 _ l1
      replace N1 := news_pickT N1 [] 1 rfl
      clear F N
      (((try dsimp only); (with_reducible show wpAny _ _ _ _ _ _); k_fold))
      k_steps
      try any_goals (first | exact Str.empty | exact Value.none | exact (0 : Nat))
      (try unfold Hold)
      (with_reducible rename Fr _ _ _ _ => F)
      (with_reducible rename News _ _ _ _ => N)
      exact .mk _ _ _ y dy _ pb _ _ _ _ _ _ F (by rfl) N hdy l1)
    clear F N
    obtain ⟨h, tk, m, y, dy, fp, pb, t1, t2, t3, t4, t5, t6, F, hm, N, hdy, l1⟩ := hm
    dsimp only
    refine wpAny_execs_cons (wpAny_mono (Q := fun fl s' => LexMid2 PySem.Challenge.rw_pm0015_01.row.prog w (Mine.hd.heap_39 w.params) p loose mean mg mb 110 123 96 18 g L S (L + 1) l n ocl9 s fl s') ?m2 (fun fl s' hm2 => ?r2) (fun _ _ e => e))
    (case m2 =>
      have hSd : @LT.lt Nat _ S dy := l1 (S, lstS l n) (List.mem_cons_of_mem _ (List.mem_append_right tl (List.mem_cons_self ..)))
      have hLd : @LT.lt Nat _ (L + 1) dy := l1 _ (List.mem_cons_self ..)
      rcases htl with rfl | ⟨c0, oc0, vs0, t0, hPc, rfl, e1, e2⟩
      · have hPd := hPS.1
        clear l1 hlt hnd
        simp only [List.cons_append, List.nil_append, lexD, ent] at N
        (((try dsimp only); (with_reducible show wpAny _ _ _ _ _ _); k_fold))
        k_steps
        try any_goals (first | exact Str.empty | exact Value.none | exact (0 : Nat))
        (try unfold Hold)
        (with_reducible rename Fr _ _ _ _ => F)
        (with_reducible rename News _ _ _ _ => N)
        rename _ = Data.fields _ => e1
        rename _ = some (Value.str _ _) => e2
        rename (y < (_ : Nat)) ∧ _ => l1
        rename (_ : Nat) < (_ : Nat) => l2
        have hSf := Nat.lt_trans l1.2.2.2.2 l2
        exact .mk _ _ _ y dy _ ⟨_, _, _, _, _, _, _, _, _⟩ _ _ F hm N ⟨_, _, _, _, _, _, _, _, _, rfl⟩ ⟨_, _, e1, e2⟩ (hread _ _ _ _ _ _ _ _ _ _ _ _ e1 e2 d1 (Nat.ne_of_gt hSf) (Nat.ne_of_gt l1.2.2.2.2) (Nat.ne_of_gt (Nat.lt_succ_of_lt hSL))) hSd hLd hdy (Nat.lt_trans l1.1 l2) l2 (.inr l1.1) l1.2.2.2.1
      · have hPd := hPS.1
        have hcS : @LT.lt Nat _ c0 S := hnd _ (List.mem_cons_of_mem _ (List.mem_cons_self ..))
        have hcL : @LT.lt Nat _ c0 L := hlt (c0, oc0) (List.mem_cons_of_mem _ (List.mem_cons_self ..))
        clear l1 hlt hnd
        simp only [List.cons_append, List.nil_append, lexD, ent, tabO] at N
        (((try dsimp only); (with_reducible show wpAny _ _ _ _ _ _); k_fold))
        k_steps
        try any_goals (first | exact Str.empty | exact Value.none | exact (0 : Nat))
        (try unfold Hold)
        (with_reducible rename Fr _ _ _ _ => F)
        (with_reducible rename News _ _ _ _ => N)
        rename (y < (_ : Nat)) ∧ _ => l1
        exact .mk _ _ _ y dy _ ⟨_, _, _, _, _, _, _, _, _⟩ _ _ F hm (news_pick N [0, 5, 1, 2, 3, 4, 6] rfl) ⟨_, _, _, _, _, _, _, _, _, rfl⟩ ⟨_, _, e1, e2⟩ (hread _ _ _ _ _ _ _ _ _ _ _ _ e1 e2 d1 (Nat.ne_of_gt l1.2.2.2.2.2) (Nat.ne_of_lt hcS) (Nat.ne_of_gt (Nat.lt_succ_of_lt hSL))) hSd hLd hdy l1.1 l1.2.2.2.2.1 (.inl ⟨hcS, Nat.lt_succ_of_lt hcL⟩) hPc)
    clear F N hm hdy l1 hread
    obtain ⟨h, tk, m, y, dy, f, q, oc, ody, F, hm, N, hs, hc, hr, o1, o2, o3, o4, o5, o6, o7⟩ := hm2
    dsimp only
    (((try dsimp only); (with_reducible show wpAny _ _ _ _ _ _); k_fold))
    k_steps
    try any_goals (first | exact Str.empty | exact Value.none | exact (0 : Nat))
    unfold Hold
    refine' cls_use (own := []) (fun x dx hdx => init_k w x dx hdx _) (fun _ _ _ _ h => h.none) B F X T D N ?a1 ?a2 ?a3 ?a4 ?a5 ?a6 ?a7 ?a8 ?_
    (case a1 => rfl)
    (case a2 => rfl)
    (case a3 => k_is)
    (case a4 => k_is)
    (case a5 => k_is)
    (case a6 => exact lt_up 4 hd rfl)
    (case a7 => exact lt_up 24 hu rfl)
    (case a8 => exact fun _ _ h => nomatch h)
    rintro x dx own' h' tk' hdx ⟨pb2, r1, r2, r3, r4, r5, r6, hpb2⟩ F1 N1 _ l4
    dsimp only
    (repeat k_unfold)
    (try unfold Hold)
    have hSl : S < L + 1 := Nat.lt_succ_of_lt hSL
    exact lex_pack F1 N1 ⟨.inl hSl, o1, o2, o3, o4, l4 (f, lamO q) (List.mem_cons_self ..), hdx, hpb2, o5, o6⟩ hPS.1 (Nat.lt_succ_of_lt hPS.2) o7 hs hc hr
-- part cread
/-- what _read_char gives -/
inductive RdPost (lx : Addr) (w : World) (z : Lx) (ln : Int) (t : Tok) (opb : Obj) : List (Nat × Tok) → Nat → Value → List (Addr × Obj) → Prop
  | nil (n : Nat) (u : Tok) : RdPost lx w z ln t opb [] n (.str ⟨#[]⟩ u) (z.own lx (z.od w ln t) opb [] n)
  | cons (c : Nat × Tok) (r : List (Nat × Tok)) (n : Nat) (t' : Tok) : RdPost lx w z ln t opb (c :: r) n (.str ⟨#[c.1]⟩ c.2) (z.own lx (z.od w (if c.1 = 10 then ln + 1 else ln) t') opb r (n + 1))
theorem RdPost.line {lx : Addr} {w : World} {z : Lx} {ln : Int} {t : Tok} {opb : Obj} {c : Nat × Tok} (h : c.1 = 10) (r : List (Nat × Tok)) (n : Nat) (t' : Tok) : RdPost lx w z ln t opb (c :: r) n (.str ⟨#[c.1]⟩ c.2) (z.own lx (z.od w (ln + 1) t') opb r (n + 1)) := by
  have := RdPost.cons (lx := lx) (w := w) (z := z) (ln := ln) (t := t) (opb := opb) c r n t'
  rwa [if_pos h] at this
theorem RdPost.sign {lx : Addr} {w : World} {z : Lx} {ln : Int} {t : Tok} {opb : Obj} {c : Nat × Tok} (h : c.1 ≠ 10) (r : List (Nat × Tok)) (n : Nat) (t' : Tok) : RdPost lx w z ln t opb (c :: r) n (.str ⟨#[c.1]⟩ c.2) (z.own lx (z.od w ln t') opb r (n + 1)) := by
  have := RdPost.cons (lx := lx) (w := w) (z := z) (ln := ln) (t := t) (opb := opb) c r n t'
  rwa [if_neg h] at this
theorem rd_pack {z : Lx} {w : World} {g h : Heap} {L lx : Addr} {opb o : Obj} {r : List (Nat × Tok)} {n : Nat} {ln : Int} {t : Tok} (e : z.ody = o)
    (N : News g L h [(z.F, lamO z.q), (z.q.c, z.oc), (z.cl, z.ocl), (z.S, lstS r n), (z.dx, z.od w ln t), (z.pb, opb), (z.x, instObj lx z.dx), (z.y, instObj lx z.dy), (z.dy, o)]) : News g L h (z.own lx (z.od w ln t) opb r n) := by
  subst e
  exact news_pick N [4, 5, 3, 6, 0, 1, 7, 8, 2] rfl
set_option maxRecDepth 100000 in
set_option maxHeartbeats 8000000 in
theorem readchar_k (w : World) {p : Program} {loose : List Str} {mean : ExcName → Option Value} {mg mb : Str → Option Value} (z : Lx) (hz : z.Ok PySem.Challenge.rw_pm0015_01.row.prog w (Mine.hd.heap_39 w.params) p loose mean mg mb) (ln : Int) (t : Tok) (opb : Obj)
    (l : List (Nat × Tok)) (n : Nat) (hl : l.length ≤ 5000) :
    Ctr PySem.Challenge.rw_pm0015_01.row.prog w (Mine.hd.heap_39 w.params) p loose mean mg mb 4 40 93 [.ref z.x] (z.own 110 (z.od w ln t) opb l n)
      (RdPost 110 w z ln t opb l n) noErr noErrN := by
  obtain ⟨v1, v2, v3, v4, k1, k2, k3, k4, k5, e⟩ := hz.strD
  have hrd := fun (a : Nat) h => Ord.rd hz.nd (a := a) h
  have hnd := hz.nd
  unfold Ord at hnd
  simp only [Lx.own, Lx.fix, Lx.od, lexD, ent]
  rw [e]
  simp only [strmD, ent]
  k_fill
  (k_dflt (refine' ctr_enter ?k6 ?k7 ?k9 ?kB ?_ ?c2 ?c3 ?c4 ?c5; (case k6 => k_is); (case k7 => k_is); (case k9 => exact fun _ => BindsTo.of_eq rfl); (case c5 => decide); (case kB => exact locs rfl); (case c2 => exact rfl); (case c3 => exact rfl); (case c4 => exact rfl); k_whole))
  intro dp un gd fr base g L h₁ s hd hu hg B F N X T hlt D
  clear hg hlt
  (try dsimp only)
  (((try dsimp only); (with_reducible show wpAny _ _ _ _ _ _); k_fold))
  k_steps
  have hfa : FnAt z.F h₁ := ⟨_, _, _, _, (N (z.F, lamO z.q) (by k_mem)).1⟩
  dsimp only
  refine callWith_F hfa ?_
  (((try dsimp only); (with_reducible show wpAny _ _ _ _ _ _); k_fold))
  k_steps
  unfold Hold
  dsimp only [List.nil_append]
  refine ctr_use (own := [(z.F, lamO z.q), (z.q.c, z.oc), (z.cl, z.ocl), (z.S, lstS l n)]) (rest := [(z.dx, lexD w ln (.ref z.y) z.pb z.k1 t z.k3 z.k4 z.k5 z.k6), (z.pb, opb), (z.x, instObj 110 z.dx), (z.y, instObj 110 z.dy), (z.dy, strmD w z.F v1 v2 v3 v4 k1 k2 k3 k4 k5)]) (hz.read l n _ hl) B F X T D (news_pick N [4, 5, 8, 2, 0, 1, 3, 6, 7] rfl) rfl rfl (lt_up 3 hd rfl) (lt_up 23 hu rfl) ?_ ?_
  · exact List.forall_mem_cons.mpr ⟨hrd z.dx (.inl hnd.2.2.2.2.2.1), List.forall_mem_cons.mpr ⟨hrd z.pb (.inl (Nat.lt_trans hnd.2.2.2.2.2.1 (Nat.lt_trans hnd.2.2.2.2.2.2.1 hnd.2.2.2.2.2.2.2.1))), List.forall_mem_cons.mpr ⟨hrd z.x (.inl (Nat.lt_trans hnd.2.2.2.2.2.1 hnd.2.2.2.2.2.2.1)), List.forall_mem_cons.mpr ⟨hrd z.y (.inr (.inl rfl)), List.forall_mem_cons.mpr ⟨hrd z.dy (.inr (.inr rfl)), List.forall_mem_nil _⟩⟩⟩⟩⟩
  · intro v own' h' tk' hp F1 N1 _
    clear F N hfa hrd
    cases hp with
    | nil n u =>
      simp only [List.cons_append, List.nil_append, lexD, strmD, ent] at N1
      (((try dsimp only); (with_reducible show wpAny _ _ _ _ _ _); k_fold))
      k_steps
      (with_reducible rename Fr _ _ _ _ => F9)
      (with_reducible rename News _ _ _ _ => N9)
      unfold Hold
      (try dsimp only)
      show Lv s g _ _ _
      exact ⟨L, _, _, rfl, F9, rd_pack e N9, .nil n u⟩
    | cons c r n =>
      simp only [List.cons_append, List.nil_append, lexD, strmD, ent] at N1
      (((try dsimp only); (with_reducible show wpAny _ _ _ _ _ _); k_fold))
      k_steps
      all_goals (rename ((_ : Str) == _) = _ => hq)
      all_goals ((with_reducible rename Fr _ _ _ _ => F9); (with_reducible rename News _ _ _ _ => N9))
      all_goals (unfold Hold; (try dsimp only); (show Lv s g _ _ _))
      · exact ⟨L, _, _, rfl, F9, rd_pack e N9, .line (of_decide_eq_true (one_beq (d := 10) (by decide) hq)) r n _⟩
      · exact ⟨L, _, _, rfl, F9, rd_pack e N9, .sign (of_decide_eq_false (one_beq (d := 10) (by decide) hq)) r n _⟩
-- part ctoken
section
/-- what is left of the signs is their end -/
inductive TokPost (lx : Addr) (w : World) (z : Lx) (ln : Int) (opb : Obj) (l : List (Nat × Tok)) : Value → List (Addr × Obj) → Prop
  | mk (l' : List (Nat × Tok)) (n' : Nat) (t' u : Tok) (pre : List (Nat × Tok)) (h1 : l = pre ++ l') (h2 : l'.map (·.1) = (token (l.map (·.1))).2) :
    TokPost lx w z ln opb l (.str (strOf (token (l.map (·.1))).1) u) (z.own lx (z.od w (ln + nls (pre.map (·.1))) t') opb l' n')
theorem TokPost.of {lx : Addr} {w : World} {z : Lx} {ln : Int} {opb : Obj} {l pre l' : List (Nat × Tok)} {n' : Nat} {t' u : Tok} {dn : Str} (h1 : l = pre ++ l') (e : token (l.map (·.1)) = (dn.cps.toList, l'.map (·.1))) :
    TokPost lx w z ln opb l (.str dn u) (z.own lx (z.od w (ln + nls (pre.map (·.1))) t') opb l' n') := by
  have h := TokPost.mk (lx := lx) (w := w) (z := z) (ln := ln) (opb := opb) l' n' t' u pre h1 (by rw [e])
  rw [e] at h
  rwa [show strOf ((dn.cps.toList, l'.map (·.1)) : List Nat × List Nat).1 = dn from strOf_toList dn] at h
inductive tokInv (lx : Addr) (w : World) (z : Lx) (ln : Int) (opb : Obj) (l : List (Nat × Tok)) (rc I m : Addr) (t0 : Tok) (mm : Str → Option Value) : Nat → List (Addr × Obj) → Prop
  | go (a1 : mm (Str.ofString "self") = some (.ref z.x)) (a2 : mm (Str.ofString "fiter") = some (.ref I)) (l' : List (Nat × Tok)) (n' : Nat) (t' u : Tok) (pre : List (Nat × Tok)) (h1 : l = pre ++ l') (h2 : token (l.map (·.1)) = token (l'.map (·.1)))
    (h3 : mm (Str.ofString "token") = some (.str (Str.ofString "") u)) : tokInv lx w z ln opb l rc I m t0 mm (l'.length + 1) (z.own lx (z.od w (ln + nls (pre.map (·.1))) t') opb l' n' ++ [(I, callO m t0), (m, methodObj (.ref rc) (.ref z.x))])
  | fin (a1 : mm (Str.ofString "self") = some (.ref z.x)) (a2 : mm (Str.ofString "fiter") = some (.ref I)) (n' : Nat) (t' u : Tok) (dn : Str) (h1 : mm (Str.ofString "token") = some (.str dn u)) (h2 : token (l.map (·.1)) = (dn.cps.toList, [])) :
    tokInv lx w z ln opb l rc I m t0 mm 0 (z.own lx (z.od w (ln + nls (l.map (·.1))) t') opb [] n' ++ [(I, endO), (m, methodObj (.ref rc) (.ref z.x))])
theorem nls_c (ln : Int) (pre : List (Nat × Tok)) (c : Nat × Tok) : (if c.1 = 10 then ln + nls (pre.map (·.1)) + 1 else ln + nls (pre.map (·.1))) = ln + nls ((pre ++ [c]).map (·.1)) := by
  rw [List.map_append, List.map_singleton, nls_snoc]
  split
  · rw [Int.add_assoc]
  · rfl
/-- what a sign taken off says of the rest -/
structure Took (all pre l : List (Nat × Tok)) (c : Nat × Tok) (r : List (Nat × Tok)) : Prop where
  hall : all = (pre ++ [c]) ++ r
  hm : l.map (·.1) = c.1 :: r.map (·.1)
  hk : r.length < l.length
  hl : r.length ≤ 5000
/-- the turn's next of get_token: one more sign, or their end -/
theorem tok_next (w : World) {p : Program} {loose : List Str} {mean : ExcName → Option Value} {mg mb : Str → Option Value} (z : Lx) (hz : z.Ok PySem.Challenge.rw_pm0015_01.row.prog w (Mine.hd.heap_39 w.params) p loose mean mg mb) {ln : Int} {tt : Tok} {opb : Obj}
    {all pre l : List (Nat × Tok)} {n : Nat} (hall : all = pre ++ l) (hl : all.length ≤ 5000) {A₀ : Around} {base g : Heap} {outer : List Env} {env : Env} {L : Addr} {mm : Str → Option Value} {s : Shared} {dp un : Nat} {gd : Option (List Code)} {I m : Addr} {t : Tok} {oc : Value} {odd : Option Addr} {fd : FuncData} {osl : Array (Option Value)} (hrc : (Mine.hd.heap_39 w.params).lookup 93 = some ⟨oc, odd, .func fd, osl⟩)
    {Q : Option Value → Shared → Prop} {E : Value → Shared → Prop}
    (B : Below A₀ base outer g) (F : Fr g L s.heap mm) (X : (Mine.hd.heap_39 w.params).In g) (T : Top p loose mean mg mb g) (D : KtsDicts (fsOf outer) g) (N : News g L s.heap (z.own 110 (z.od w (ln + nls (pre.map (·.1))) tt) opb l n ++ [(I, callO m t), (m, methodObj (.ref 93) (.ref z.x))]))
    (hf : env.frame = some L) (hke : env.scope.kind = .function) (hd : dp + 4 < recursionLimit) (hu : un + 1 + 40 < cLine) (hpm : @LT.lt Nat _ z.pb m) (hIm : @LT.lt Nat _ m I)
    (item : ∀ c r t' h' tk', Took all pre l c r → Fr g L h' mm → News g L h' (z.own 110 (z.od w (ln + nls ((pre ++ [c]).map (·.1))) t') opb r (n + 1) ++ [(I, callO m t), (m, methodObj (.ref 93) (.ref z.x))]) → Q (some (.str ⟨#[c.1]⟩ c.2)) { s with heap := h', toks := tk' })
    (done : ∀ h' tk', all = pre → l.map (·.1) = [] → Fr g L h' mm → News g L h' (z.own 110 (z.od w (ln + nls (all.map (·.1))) tt) opb [] n ++ [(I, endO), (m, methodObj (.ref 93) (.ref z.x))]) → Q none { s with heap := h', toks := tk' }) :
    wpAny (model PySem.Challenge.rw_pm0015_01.row.prog w) (mA dp un gd (env :: outer)) (pyNext (.ref I)) Q E s := by
  have hll : l.length ≤ 5000 := Nat.le_trans (by rw [hall, List.length_append]; exact Nat.le_add_left ..) hl
  refine' next_read (readchar_k w z hz _ tt opb l n hll) ?b1 B F X T D N hf hke hrc hd hu ?hap (fun q hq => List.mem_singleton.mp hq ▸ Nat.ne_of_lt hIm) ?b6 ?b7
  (case hap =>
    intro q hq
    rcases List.mem_cons.mp hq with h | hq
    · rw [h]; exact Lx.part hz.nd (.inl (Nat.lt_trans hpm hIm))
    · rw [List.mem_singleton.mp hq]; exact Lx.part hz.nd (.inl hpm))
  (case b1 =>
    intro v own' hp
    cases hp with
    | nil n u => exact ⟨_, _, rfl⟩
    | cons c r n t' => exact ⟨_, _, rfl⟩)
  (case b7 =>
    intro v own' h' tk' hp F N
    generalize hx : Value.str ⟨#[]⟩ v = x at hp
    cases hp with
    | cons c r n t' => injection hx with hx; injection hx with hx; simp at hx
    | nil n u =>
      rw [List.append_nil] at hall
      subst hall
      exact done h' tk' rfl rfl F N)
  (case b6 =>
    intro yy v own' h' tk' hp hne F N
    generalize hx : Value.str yy v = x at hp
    cases hp with
    | nil n u => injection hx with hx; exact absurd hx hne
    | cons c r n t' =>
      injection hx with e1 e2
      subst e1 e2
      rw [nls_c] at N
      exact item c r t' h' tk' ⟨by rw [hall, List.append_assoc]; rfl, rfl, Nat.lt_succ_self _, Nat.le_of_succ_le hll⟩ F N)
/-- a call of _read_char: what it takes off -/
structure Read (all pre l e r : List (Nat × Tok)) : Prop where
  hall : all = (pre ++ e) ++ r
  hm : l.map (·.1) = (e ++ r).map (·.1)
  he : e.length = 1 ∨ (e = [] ∧ r = [])
  hk : r.length ≤ l.length
  hx : (strOf (e.map (·.1))).length ≤ 1
theorem tok_read (w : World) {p : Program} {loose : List Str} {mean : ExcName → Option Value} {mg mb : Str → Option Value} (z : Lx) (hz : z.Ok PySem.Challenge.rw_pm0015_01.row.prog w (Mine.hd.heap_39 w.params) p loose mean mg mb) {ln : Int} {tt : Tok} {opb : Obj}
    {all pre l : List (Nat × Tok)} {n : Nat} (hall : all = pre ++ l) (hl : l.length ≤ 5000) {A₀ : Around} {base g : Heap} {outer : List Env} {env : Env} {L : Addr} {mm : Str → Option Value} {s : Shared} {dp un : Nat} {gd : Option (List Code)} {I m : Addr} {oI om : Obj}
    {Q E : Value → Shared → Prop}
    (B : Below A₀ base outer g) (F : Fr g L s.heap mm) (X : (Mine.hd.heap_39 w.params).In g) (T : Top p loose mean mg mb g) (D : KtsDicts (fsOf outer) g) (N : News g L s.heap (z.own 110 (z.od w (ln + nls (pre.map (·.1))) tt) opb l n ++ [(I, oI), (m, om)]))
    (hf : env.frame = some L) (hke : env.scope.kind = .function) (hd : dp + 4 < recursionLimit) (hu : un + 40 < cLine) (hpm : @LT.lt Nat _ z.pb m) (hIm : @LT.lt Nat _ m I)
    (h : ∀ (e r : List (Nat × Tok)) v n' t' h' tk', Read all pre l e r → Fr g L h' mm → News g L h' (z.own 110 (z.od w (ln + nls ((pre ++ e).map (·.1))) t') opb r n' ++ [(I, oI), (m, om)]) → Q (.str (strOf (e.map (·.1))) v) { s with heap := h', toks := tk' }) :
    wpAny (model PySem.Challenge.rw_pm0015_01.row.prog w) (mA dp un gd (env :: outer)) (call (.ref 93) [.ref z.x]) Q E s := by
  refine ctr_use (readchar_k w z hz _ tt opb l n hl) B F X T D N hf hke hd hu ?hap ?_
  (case hap =>
    intro q hq
    rcases List.mem_cons.mp hq with h | hq
    · rw [h]; exact Lx.part hz.nd (.inl (Nat.lt_trans hpm hIm))
    · rw [List.mem_singleton.mp hq]; exact Lx.part hz.nd (.inl hpm))
  intro v own' h' tk' hp F N _
  cases hp with
  | nil n u => exact h [] [] u n tt h' tk' ⟨by rw [hall, List.append_nil (pre ++ [])], rfl, .inr ⟨rfl, rfl⟩, Nat.le_refl _, Nat.zero_le _⟩ F (by rw [List.append_nil]; exact N)
  | cons c r n t' =>
    rw [nls_c] at N
    exact h [c] r c.2 (n + 1) t' h' tk' ⟨by rw [hall, List.append_assoc]; rfl, rfl, .inl rfl, Nat.le_succ _, Nat.le_refl _⟩ F N
inductive innInv (f : List Nat → List Nat → List Nat × List Nat) (lx : Addr) (w : World) (z : Lx) (ln : Int) (opb : Obj) (l : List (Nat × Tok)) (rc I m : Addr) (t0 : Tok) (mm : Str → Option Value) : Nat → List (Addr × Obj) → Prop
  | mk (a1 : mm (Str.ofString "self") = some (.ref z.x)) (a2 : mm (Str.ofString "fiter") = some (.ref I)) (l' : List (Nat × Tok)) (n' : Nat) (t' u : Tok) (pre : List (Nat × Tok)) (dn : Str) (h1 : l = pre ++ l') (h2 : token (l.map (·.1)) = f dn.cps.toList (l'.map (·.1)))
    (h3 : mm (Str.ofString "token") = some (.str dn u)) (h4 : dn.length ≤ pre.length) : innInv f lx w z ln opb l rc I m t0 mm l'.length (z.own lx (z.od w (ln + nls (pre.map (·.1))) t') opb l' n' ++ [(I, callO m t0), (m, methodObj (.ref rc) (.ref z.x))])
/-- the sign that a bare word begins with -/
inductive TokMid (lx : Addr) (w : World) (z : Lx) (ln : Int) (opb : Obj) (l : List (Nat × Tok)) (rc I m : Addr) (t0 : Tok) (g : Heap) (L : Addr) (s : Shared) : Flow → Shared → Prop
  | mk (h : Heap) (tk : Nat) (mm : Str → Option Value) (a1 : mm (Str.ofString "self") = some (.ref z.x)) (a2 : mm (Str.ofString "fiter") = some (.ref I)) (l' : List (Nat × Tok)) (n' : Nat) (t' u v : Tok) (pre : List (Nat × Tok)) (x : Str) (h1 : l = pre ++ l')
    (h2 : token (l.map (·.1)) = bare (Str.ofString "" ++ x : Str).cps.toList (l'.map (·.1))) (h3 : mm (Str.ofString "token") = some (.str (Str.ofString "") u)) (h5 : mm (Str.ofString "ch") = some (.str x v)) (h4 : (Str.ofString "" ++ x : Str).length ≤ pre.length) (h6 : x.length ≤ 1) (F : Fr g L h mm)
    (N : News g L h (z.own lx (z.od w (ln + nls (pre.map (·.1))) t') opb l' n' ++ [(I, callO m t0), (m, methodObj (.ref rc) (.ref z.x))])) (hk : l'.length ≤ l.length) : TokMid lx w z ln opb l rc I m t0 g L s .next { s with heap := h, toks := tk }
theorem app_len {α : Type} {x y : Str} {a b : List α} (h1 : x.length ≤ a.length) (h2 : y.length ≤ b.length) : (x ++ y : Str).length ≤ (a ++ b).length := by rw [Str.length_append, List.length_append]; exact Nat.add_le_add h1 h2
theorem esc_len (e : List (Nat × Tok)) : (strOf (e.map (·.1))).length ≤ e.length := by rw [strOf_len, List.length_map]; exact Nat.le_refl _
theorem snoc_len {α : Type} {x : Str} {a : List α} {c : α} (h : x.length ≤ a.length) : x.length ≤ (a ++ [c]).length := by rw [List.length_append]; exact Nat.le_succ_of_le h
theorem pre_len {all pre l : List (Nat × Tok)} {dn : Str} (h : all = pre ++ l) (hl : all.length ≤ 5000) (hd : dn.length ≤ pre.length) : dn.length ≤ 5000 := Nat.le_trans hd (Nat.le_trans (by rw [h, List.length_append]; exact Nat.le_add_right ..) hl)
local macro_rules | `(tactic| k_mem) => `(tactic| first | exact Lx.mem_x | exact Lx.mem_dx | exact Lx.mem_pb | exact Lx.mem_xa | exact Lx.mem_dxa | exact Lx.mem_pba)
local macro_rules | `(tactic| walk_at "loadName") => `(tactic| (k_here; k_dflt (refine' ldn ?k1 ?k2 ?_; (case k1 => k_asm); (case k2 => (first | exact (Eq.refl (some _)) | with_reducible assumption | assumption)); k_whole)))
local macro_rules | `(tactic| walk_at "exec If") => `(tactic| ((with_reducible show wpAny _ _ (exec (Stmt.If (Expr.Compare _ _ [Expr.Constant (Const.str (Str.ofString "\\")) _ _] _) _ [] _) _) _ _ _); refine Hold.mk ?_))
set_option maxRecDepth 100000 in
set_option maxHeartbeats 8000000 in
theorem token_k (w : World) {p : Program} {loose : List Str} {mean : ExcName → Option Value} {mg mb : Str → Option Value} (z : Lx) (hz : z.Ok PySem.Challenge.rw_pm0015_01.row.prog w (Mine.hd.heap_39 w.params) p loose mean mg mb) (ln : Int) (tt : Tok) (npb : Nat)
    (l : List (Nat × Tok)) (n : Nat) (hl : l.length ≤ 5000) :
    Ctr PySem.Challenge.rw_pm0015_01.row.prog w (Mine.hd.heap_39 w.params) p loose mean mg mb 8 100 100 [.ref z.x] (z.own 110 (z.od w ln tt) (W.listOf #[] npb) l n)
      (TokPost 110 w z ln (W.listOf #[] npb) l) noErr noErrN := by
  k_fill
  (k_dflt (refine' ctr_enter ?k6 ?k7 ?k9 ?kB ?_ ?c2 ?c3 ?c4 ?c5; (case k6 => k_is); (case k7 => k_is); (case k9 => exact fun _ => BindsTo.of_eq rfl); (case c5 => decide); (case kB => exact locs rfl); (case c2 => exact rfl); (case c3 => exact rfl); (case c4 => exact rfl); k_whole))
  intro dp un gd fr base g L h₁ s hd hu hg B F N X T hlt D
  clear hg hlt
  (try dsimp only)
  (((try dsimp only); (with_reducible show wpAny _ _ _ _ _ _); k_fold))
  k_steps
  (try unfold Hold)
  (with_reducible rename Fr _ _ _ _ => F)
  (with_reducible rename News _ _ _ _ => N)
  rename Addr => m
  rename ∀ p : Addr × Obj, _ => lm
  have hpm : @LT.lt Nat _ z.pb m := lm (z.pb, W.listOf #[] npb) Lx.mem_pb
  clear lm
  refine iter_callN F N (List.mem_cons_self ..) ?_
  intro I h3 t0 F3 N3 l3
  have hmI : @LT.lt Nat _ m I := l3 _ (List.mem_cons_self ..)
  replace N3 := news_swap (a := [(I, callO m t0), (m, methodObj (.ref 93) (.ref z.x))]) N3
  clear F N l3
  (((try dsimp only); (with_reducible show wpAny _ _ _ _ _ _); k_fold))
  k_steps
  unfold Hold
  (with_reducible rename Fr _ _ _ _ => F)
  (with_reducible rename News _ _ _ _ => N)
  refine for_inv (h₀ := g) ?_
  k_steps
  unfold Hold
  refine iter_self (N (I, callO m t0) (List.mem_append_right _ (List.mem_cons_self ..))).1 ?_
  refine ⟨fun k mm news => tokInv 110 w z ln (W.listOf #[] npb) l 93 I m t0 mm k news, l.length + 1, _, _, .go (by rfl) (by rfl) l n tt _ [] rfl rfl (by rfl), F, by rw [show ln + nls (List.map (fun x => x.1) ([] : List (Nat × Tok))) = ln by simp [nls]]; exact N, fun _ => rfl, ?_⟩
  clear F N
  rintro k m₁ news₁ h tk1 (⟨hself, hfi, l', n', t', u, pre, hpre, htok, htk⟩ | ⟨hself, hfi, n', t', u, dn, htk, htok⟩) F N
  · refine tok_next (env := envOf _ _ L _ _) w z hz hpre hl (by k_is) B F X T D N rfl rfl (lt_up 5 hd rfl) (lt_up 44 hu rfl) hpm hmI ?_ ?_
    · intro c r t₁ h₁ tk₁ ht F N
      dsimp only
      refine wpAny_assign_Name ?_
      k_fold
      k_steps
      · (try unfold Hold)
        (with_reducible rename Fr _ _ _ _ => F8)
        (with_reducible rename News _ _ _ _ => N8)
        rename ((_ : Str) == Str.ofString "\"") = true => hqt
        have hq := of_decide_eq_true (one_beq (d := 34) (by decide) hqt)
        have htok0 : token (l.map (·.1)) = quoted (Str.ofString "").cps.toList (r.map (·.1)) := by rw [htok, ht.hm, hq]; exact token_quote
        (try unfold Hold)
        refine for_inv (h₀ := g) ?_
        k_steps
        unfold Hold
        refine iter_self (N8 (I, callO m t0) (List.mem_append_right _ (List.mem_cons_self ..))).1 ?_
        refine ⟨fun k mm news => innInv quoted 110 w z ln (W.listOf #[] npb) l 93 I m t0 mm k news, _, _, _, .mk (by exact hself) (by exact hfi) r _ _ _ (pre ++ [c]) _ ht.hall htok0 (by exact htk) (Nat.zero_le _), F8, N8, fun _ => rfl, ?_⟩
        clear F8 N8
        rintro k₂ m₂ news₂ h₂ tk₂ ⟨hself₂, hfi₂, l₂, n₂, t₂, u₂, pre₂, dn, hpre₂, htok₂, htk₂, hlen₂⟩ F N
        have hdl := pre_len hpre₂ hl hlen₂
        refine tok_next (env := envOf _ _ L _ _) w z hz hpre₂ hl (by k_is) B F X T D N rfl rfl (lt_up 5 hd rfl) (lt_up 44 hu rfl) hpm hmI ?_ ?_
        · intro c₂ r₂ t₃ h₃ tk₃ ht₂ F N
          dsimp only
          refine wpAny_assign_Name ?_
          k_fold
          k_steps
          · (try unfold Hold)
            (with_reducible rename Fr _ _ _ _ => F9)
            (with_reducible rename News _ _ _ _ => N9)
            rename ((_ : Str) == Str.ofString "\"") = _ => hst
            (try dsimp only)
            show Lv s g _ _ _
            exact ⟨_, _, _, rfl, F9, news_fst N9, .of ht₂.hall (by rw [htok₂, ht₂.hm]; exact quoted_end' (of_decide_eq_true (one_beq (d := 34) (by decide) hst)))⟩
          · unfold Hold
            rename ((_ : Str) == Str.ofString "\"") = _ => hst
            have hst' := of_decide_eq_false (one_beq (d := 34) (by decide) hst)
            refine wpAny_If (wpAny_isTrue_Compare1 ?_)
            k_fold
            k_steps
            · (try unfold Hold)
              (with_reducible rename Fr _ _ _ _ => F9)
              (with_reducible rename News _ _ _ _ => N9)
              rename ((_ : Str) == Str.ofString "\\") = true => hbs
              have hb := of_decide_eq_true (one_beq (d := 92) (by decide) hbs)
              refine tok_read (env := envOf _ _ L _ _) w z hz ht₂.hall ht₂.hl B F9 X T D N9 rfl rfl (lt_up 5 hd rfl) (lt_up 43 hu rfl) hpm hmI ?_
              intro e r₃ v n₃ t₃ h₄ tk₄ hr F N
              clear F9 N9
              have hxl := hr.hx
              (((try dsimp only); (with_reducible show wpAny _ _ _ _ _ _); k_fold))
              k_steps
              (try unfold Hold)
              dsimp only [TurnEnd]
              (with_reducible rename Fr _ _ _ _ => F9)
              (with_reducible rename News _ _ _ _ => N9)
              exact ⟨r₃.length, _, _, _, _, Nat.lt_of_le_of_lt hr.hk ht₂.hk, rfl, F9, N9, .mk (by exact hself₂) (by exact hfi₂) r₃ n₃ _ _ ((pre₂ ++ [c₂]) ++ e) _ hr.hall (by rw [htok₂, ht₂.hm, hr.hm, hb]; exact quoted_esc hr.he) (by rfl) (app_len (snoc_len hlen₂) (esc_len e))⟩
            · (try unfold Hold)
              (with_reducible rename Fr _ _ _ _ => F9)
              (with_reducible rename News _ _ _ _ => N9)
              rename ((_ : Str) == Str.ofString "\\") = false => hbs
              have hb := of_decide_eq_false (one_beq (d := 92) (by decide) hbs)
              dsimp only [TurnEnd]
              exact ⟨r₂.length, _, _, _, _, ht₂.hk, rfl, F9, N9, .mk (by exact hself₂) (by exact hfi₂) r₂ _ _ _ (pre₂ ++ [c₂]) (dn ++ ⟨#[c₂.1]⟩) ht₂.hall (by rw [htok₂, ht₂.hm]; exact quoted_sign hst' hb) (by rfl) (app_len (y := ⟨#[c₂.1]⟩) (b := [c₂]) hlen₂ (Nat.le_refl 1))⟩
        · intro h₃ tk₃ ea em F N
          dsimp only
          k_steps
          (try unfold Hold)
          dsimp only [TurnEnd]
          exact ⟨0, _, _, _, _, Nat.lt_of_le_of_lt (Nat.zero_le _) (Nat.lt_succ_self _), rfl, F, N, .fin (by exact hself₂) (by exact hfi₂) n₂ t₂ u₂ dn (by exact htk₂) (by rw [htok₂, em]; exact quoted_nil)⟩
      · unfold Hold
        (with_reducible rename Fr _ _ _ _ => F7)
        (with_reducible rename News _ _ _ _ => N7)
        rename (List.isEmpty _) = _ => hws
        rename ((_ : Str) == Str.ofString "\"") = false => hqt
        refine wpAny_mono (Q := fun fl s' => TokMid 110 w z ln (W.listOf #[] npb) l 93 I m t0 g L s fl s') ?mA (fun fl s' hm => ?mB) (fun _ _ e => e)
        (case mA =>
          refine wpAny_If (wpAny_isTrue_Compare1 ?_)
          k_fold
          k_steps
          · (try unfold Hold)
            (with_reducible rename Fr _ _ _ _ => F9)
            (with_reducible rename News _ _ _ _ => N9)
            rename ((_ : Str) == Str.ofString "\\") = true => hbs
            have hb := of_decide_eq_true (one_beq (d := 92) (by decide) hbs)
            refine tok_read (env := envOf _ _ L _ _) w z hz ht.hall ht.hl B F9 X T D N9 rfl rfl (lt_up 5 hd rfl) (lt_up 43 hu rfl) hpm hmI ?_
            intro e r₃ v n₃ t₃ h₄ tk₄ hr F N
            clear F9 N9
            (((try dsimp only); (with_reducible show wpAny _ _ _ _ _ _); k_fold))
            k_steps
            (try unfold Hold)
            (with_reducible rename Fr _ _ _ _ => F9)
            (with_reducible rename News _ _ _ _ => N9)
            exact .mk _ _ _ (by exact hself) (by exact hfi) r₃ n₃ _ _ _ ((pre ++ [c]) ++ e) _ hr.hall (by rw [htok, ht.hm, hr.hm, hb]; exact token_esc hr.he) (by exact htk) (by rfl) (app_len (Nat.zero_le _) (esc_len e)) hr.hx F9 N9 (by rw [hr.hall, List.length_append]; exact Nat.le_add_left ..)
          · (try unfold Hold)
            (with_reducible rename Fr _ _ _ _ => F9)
            (with_reducible rename News _ _ _ _ => N9)
            rename ((_ : Str) == Str.ofString "\\") = false => hbs
            have hb := of_decide_eq_false (one_beq (d := 92) (by decide) hbs)
            have hq := of_decide_eq_false (one_beq (d := 34) (by decide) hqt)
            have hw : isWs c.1 = false := by simpa using ws_of hws
            exact .mk _ _ _ (by exact hself) (by exact hfi) r _ _ _ _ (pre ++ [c]) ⟨#[c.1]⟩ ht.hall (by rw [htok, ht.hm]; exact token_bare hw hq hb) (by exact htk) (by rfl) (app_len (Nat.zero_le _) (Nat.le_refl 1)) (Nat.le_refl 1) F9 N9 (by rw [ht.hall, List.length_append]; exact Nat.le_add_left ..))
        clear F7 N7 F N ht hws hqt
        obtain ⟨h₅, tk₅, m₅, hself₅, hfi₅, l₅, n₅, t₅, u₅, v₅, pre₅, x₅, hpre₅, htok₅, htk₅, hch₅, hln₅, hx₅, F8, N8, hk₅⟩ := hm
        (repeat k_unfold)
        dsimp only
        k_steps
        (try unfold Hold)
        (with_reducible rename Fr _ _ _ _ => F8)
        (with_reducible rename News _ _ _ _ => N8)
        (try unfold Hold)
        refine for_inv (h₀ := g) ?_
        k_steps
        unfold Hold
        refine iter_self (N8 (I, callO m t0) (List.mem_append_right _ (List.mem_cons_self ..))).1 ?_
        refine ⟨fun k mm news => innInv bare 110 w z ln (W.listOf #[] npb) l 93 I m t0 mm k news, _, _, _, .mk (by exact hself₅) (by exact hfi₅) l₅ n₅ t₅ _ pre₅ (Str.ofString "" ++ x₅) hpre₅ htok₅ (by rfl) hln₅, F8, N8, fun _ => rfl, ?_⟩
        clear F8 N8
        rintro k₂ m₂ news₂ h₂ tk₂ ⟨hself₂, hfi₂, l₂, n₂, t₂, u₂, pre₂, dn, hpre₂, htok₂, htk₂, hlen₂⟩ F N
        have hdl := pre_len hpre₂ hl hlen₂
        refine tok_next (env := envOf _ _ L _ _) w z hz hpre₂ hl (by k_is) B F X T D N rfl rfl (lt_up 5 hd rfl) (lt_up 44 hu rfl) hpm hmI ?_ ?_
        · intro c₂ r₂ t₃ h₃ tk₃ ht₂ F N
          dsimp only
          refine wpAny_assign_Name ?_
          k_fold
          k_steps
          · unfold Hold
            rename (List.isEmpty _) = _ => hst
            have hst' : isWs c₂.1 = false := by simpa using ws_of hst
            refine wpAny_If (wpAny_isTrue_Compare1 ?_)
            k_fold
            k_steps
            · (try unfold Hold)
              (with_reducible rename Fr _ _ _ _ => F9)
              (with_reducible rename News _ _ _ _ => N9)
              rename ((_ : Str) == Str.ofString "\\") = true => hbs
              have hb := of_decide_eq_true (one_beq (d := 92) (by decide) hbs)
              refine tok_read (env := envOf _ _ L _ _) w z hz ht₂.hall ht₂.hl B F9 X T D N9 rfl rfl (lt_up 5 hd rfl) (lt_up 43 hu rfl) hpm hmI ?_
              intro e r₃ v n₃ t₃ h₄ tk₄ hr F N
              clear F9 N9
              have hxl := hr.hx
              (((try dsimp only); (with_reducible show wpAny _ _ _ _ _ _); k_fold))
              k_steps
              (try unfold Hold)
              dsimp only [TurnEnd]
              (with_reducible rename Fr _ _ _ _ => F9)
              (with_reducible rename News _ _ _ _ => N9)
              exact ⟨r₃.length, _, _, _, _, Nat.lt_of_le_of_lt hr.hk ht₂.hk, rfl, F9, N9, .mk (by exact hself₂) (by exact hfi₂) r₃ n₃ _ _ ((pre₂ ++ [c₂]) ++ e) _ hr.hall (by rw [htok₂, ht₂.hm, hr.hm, hb]; exact bare_esc hr.he) (by rfl) (app_len (snoc_len hlen₂) (esc_len e))⟩
            · (try unfold Hold)
              (with_reducible rename Fr _ _ _ _ => F9)
              (with_reducible rename News _ _ _ _ => N9)
              rename ((_ : Str) == Str.ofString "\\") = false => hbs
              have hb := of_decide_eq_false (one_beq (d := 92) (by decide) hbs)
              dsimp only [TurnEnd]
              exact ⟨r₂.length, _, _, _, _, ht₂.hk, rfl, F9, N9, .mk (by exact hself₂) (by exact hfi₂) r₂ _ _ _ (pre₂ ++ [c₂]) (dn ++ ⟨#[c₂.1]⟩) ht₂.hall (by rw [htok₂, ht₂.hm]; exact bare_sign hst' hb) (by rfl) (app_len (y := ⟨#[c₂.1]⟩) (b := [c₂]) hlen₂ (Nat.le_refl 1))⟩
          · (try unfold Hold)
            (with_reducible rename Fr _ _ _ _ => F9)
            (with_reducible rename News _ _ _ _ => N9)
            rename (List.isEmpty _) = _ => hst
            (try dsimp only)
            show Lv s g _ _ _
            exact ⟨_, _, _, rfl, F9, news_fst N9, .of ht₂.hall (by rw [htok₂, ht₂.hm]; exact bare_ws (by simpa using ws_of hst))⟩
        · intro h₃ tk₃ ea em F N
          dsimp only
          k_steps
          (try unfold Hold)
          dsimp only [TurnEnd]
          exact ⟨0, _, _, _, _, Nat.lt_of_le_of_lt (Nat.zero_le _) (Nat.lt_succ_self _), rfl, F, N, .fin (by exact hself₂) (by exact hfi₂) n₂ t₂ u₂ dn (by exact htk₂) (by rw [htok₂, em]; exact bare_nil)⟩
      · (try unfold Hold)
        dsimp only [TurnEnd]
        (with_reducible rename Fr _ _ _ _ => F9)
        (with_reducible rename News _ _ _ _ => N9)
        rename _ = false => hws
        have hw := ws_of hws
        exact ⟨r.length + 1, _, _, _, _, Nat.succ_lt_succ ht.hk, rfl, F9, N9, .go (by exact hself) (by exact hfi) r _ _ u (pre ++ [c]) ht.hall (by rw [htok, ht.hm]; exact token_ws (by simpa using hw)) (by exact htk)⟩
    · intro h' tk' ea em F N
      dsimp only
      k_steps
      (try unfold Hold)
      show Lv s g _ _ _
      exact ⟨_, _, _, rfl, F, news_fst N, .of (dn := Str.ofString "") (List.append_nil l).symm (by rw [htok, em, token]; decide +kernel)⟩
  · refine next_ended rfl (N _ (List.mem_append_right _ (List.mem_cons_self ..))).1 ?_
    intro h' kp
    have F' : Fr g (envOf _ _ L _ _).locals h' m₁ := ⟨F.ns.keeps kp, fun b o e => kp _ _ (F.keep b o e), F.above⟩
    have N' : News g (envOf _ _ L _ _).locals h' _ := fun q hq => ⟨kp _ _ (N q (List.mem_append_left _ hq)).1, (N q (List.mem_append_left _ hq)).2⟩
    clear F N
    dsimp only
    k_steps
    (try unfold Hold)
    show Lv s g _ _ _
    exact ⟨_, _, _, rfl, F', N', .of (List.append_nil l).symm htok⟩
-- part crows
local macro_rules | `(tactic| walk_at $s:str) => if ["SrcT", "CompEnd", "eval ListComp", "call builtin:str.join", "call type:list", "subscriptTail Name Slice ref ref", "call builtin:list.append"].contains s.getString then `(tactic| refine Hold.mk ?_) else Lean.Macro.throwUnsupported
/-- what the loop over the words keeps -/
structure RowSt (T : Int) (all : List (Int × List Nat)) (l' : List (Nat × Tok)) (wd : List Nat) (ends : Int) (done : List (Int × List Nat)) (fuel nr : Nat) : Prop where
  h4 : nr + (l'.length + (if wd = [] then 0 else 1)) ≤ 4002
  h5 : wd ≠ [] → l'.length < fuel
  h6 : all = done ++ rowsT T fuel wd (l'.map (·.1)) ends
theorem RowSt.len {T : Int} {all done : List (Int × List Nat)} {l' : List (Nat × Tok)} {wd : List Nat} {ends : Int} {fuel nr : Nat} (h : RowSt T all l' wd ends done fuel nr) : l'.length ≤ 5000 ∧ nr ≤ 5000 := by have := h.h4; omega
theorem RowSt.start {mk text : Str} {q pre l' : List (Nat × Tok)} (hq1 : q.map (·.1) = pageL mk text.cps.toList) (hql : q.length ≤ 4001) (hl' : l'.map (·.1) = (token (q.map (·.1))).2) :
    RowSt (1 + nls (pageL mk text.cps.toList)) (rowsOf mk text.cps.toList) l' (token (q.map (·.1))).1 1 [] (pageL mk text.cps.toList).length 0 := by
  have h1 := token_short (q.map (·.1))
  rw [← hl', List.length_map, List.length_map] at h1
  refine ⟨?_, fun hne => ?_, ?_⟩
  · split
    · omega
    · rename_i hne
      have := h1.2 hne
      omega
  · have := h1.2 hne
    rw [← hq1, List.length_map]; exact this
  · rw [rowsOf, rowsL_succ, ← hq1, hl']; rfl
theorem nls_left {T : Int} {q pre l' : List (Nat × Tok)} (h : q = pre ++ l') : T - nls (q.map (·.1)) + nls (pre.map (·.1)) = T - nls (l'.map (·.1)) := by
  rw [h, List.map_append, nls_app]; omega
theorem RowSt.step {T : Int} {all done : List (Int × List Nat)} {l' l₂ : List (Nat × Tok)} {wd : List Nat} {ends : Int} {fuel nr : Nat} (h : RowSt T all l' wd ends done fuel nr) (hwd : wd ≠ []) (hl₂ : l₂.map (·.1) = (token (l'.map (·.1))).2) :
    RowSt T all l₂ (token (l'.map (·.1))).1 (ends + nls wd) (done ++ [(T - nls (l'.map (·.1)) - (ends + nls wd), wd)]) (fuel - 1) (nr + 1) ∧ l₂.length + (if (token (l'.map (·.1))).1 = [] then 0 else 1) < l'.length + (if wd = [] then 0 else 1) := by
  obtain ⟨h4, h5, h6⟩ := h
  have h5 := h5 hwd
  obtain ⟨f, rfl⟩ : ∃ f, fuel = f + 1 := ⟨fuel - 1, by omega⟩
  have hsh := token_short (l'.map (·.1))
  rw [← hl₂, List.length_map, List.length_map] at hsh
  rw [if_neg hwd] at h4 ⊢
  rw [rowsT, if_neg hwd] at h6
  have hk : l₂.length + (if (token (l'.map (·.1))).1 = [] then 0 else 1) < l'.length + 1 := by
    split
    · omega
    · rename_i hne
      have := hsh.2 hne
      omega
  refine ⟨⟨by omega, fun hne => ?_, ?_⟩, hk⟩
  · have := hsh.2 hne
    omega
  · rw [h6, rowsL_succ, hl₂, List.append_assoc]; rfl
theorem RowSt.fin {T : Int} {all done : List (Int × List Nat)} {l' : List (Nat × Tok)} {wd : List Nat} {ends : Int} {fuel nr : Nat} (h : RowSt T all l' wd ends done fuel nr) (hwd : wd = []) : all = done ++ [(T - nls (l'.map (·.1)) - ends, [])] := by
  have := h.h6
  rwa [rowsT, if_pos hwd] at this
theorem word_ne {wd : List Nat} (h : (strOf wd != Str.ofString "") = true) : wd ≠ [] := by
  rintro rfl
  exact absurd h (by decide)
theorem word_nil {wd : List Nat} (h : (strOf wd != Str.ofString "") = false) : wd = [] := by
  have h := eq_of_beq (by simpa using h : (strOf wd == Str.ofString "") = true)
  have h := congrArg (fun x : Str => x.cps.toList) h
  simpa [strOf, show (Str.ofString "").cps = #[] from by decide +kernel] using h
inductive rowInv (lx P a b : Addr) (w : World) (z : Lx) (T : Int) (all : List (Int × List Nat)) (A : Addr) (mm : Str → Option Value) : Nat → List (Addr × Obj) → Prop
  | mk (a1 : mm (Str.ofString "lexer") = some (.ref z.x)) (a2 : mm (Str.ofString "rows") = some (.ref A)) (l' : List (Nat × Tok)) (n' : Nat) (t' : Tok) (wd : List Nat) (ends : Int) (u te : Tok) (refs : List Value) (ps : List (Addr × Obj)) (done : List (Int × List Nat)) (fuel cap : Nat)
    (h1 : mm (Str.ofString "ends") = some (.int ends te)) (h2 : mm (Str.ofString "word") = some (.str (strOf wd) u)) (h3 : RowSt T all l' wd ends done fuel refs.length) (h7 : RowsAre refs ps done) (h8 : ∀ q ∈ ps, @LT.lt Nat _ A q.1) :
    rowInv lx P a b w z T all A mm (l'.length + (if wd = [] then 0 else 1)) (z.own lx (z.od w (T - nls (l'.map (·.1))) t') (W.listOf #[] 0) l' n' ++ (P, tabO a b z.q.c) :: (A, W.listOf refs.toArray cap) :: ps)
/-- the rows of a page, as a list of lists -/
inductive RowsPost (P a b : Addr) (mk text : Str) : Value → List (Addr × Obj) → Prop
  | mk (R c : Addr) (oc : Obj) (vs : Array Value) (t : Tok) (refs : List Value) (ps : List (Addr × Obj)) (n : Nat) (h1 : P < c) (h2 : oc.data = .fields vs) (h3 : vs[1]? = some (.str (Str.ofString "_law_lexer.<locals>.<lambda>") t)) (h4 : RowsAre refs ps (rowsOf mk text.cps.toList)) :
    RowsPost P a b mk text (.ref R) ((P, tabO a b c) :: (c, oc) :: (R, W.listOf refs.toArray n) :: ps)
/-- a sign of the page -/
inductive PgIs (mk text : Str) (i : Nat) : Value → Prop
  | mk (c : Nat) (t : Tok) (h : text.cps[i]? = some c) : PgIs mk text i (.str (pg mk c) t)
theorem PgIs.of {mk text : Str} {i c : Nat} {x : Str} (h : text.cps[i]? = some c) (e : pg mk c = x) (t : Tok) : PgIs mk text i (.str x t) := e ▸ .mk c t h
theorem rows_pack {g h : Heap} {L R P2 P A tab a b lx : Addr} {m : Str → Option Value} {s : Shared} {tk n : Nat} {o2 oA od opb : Obj} {i : Int} {t u : Tok} {x : Str} {z : Lx} {l : List (Nat × Tok)} {refs : List Value} {ps : List (Addr × Obj)} {mk text : Str} {done : List (Int × List Nat)}
    (F : Fr g L h m) (N : News g L h ((R, { cls := .type "list", data := .seq (refs ++ [Value.ref P]).toArray }) :: (P2, o2) :: (P, W.listOf #[.int i t, .str x u] 0) :: (z.own lx od opb l n ++ (tab, tabO a b z.q.c) :: (A, oA) :: ps)))
    (hPc : tab < z.q.c) (hx : x = strOf []) (hc : IsCode (Str.ofString "_law_lexer.<locals>.<lambda>") z.oc) (hra : RowsAre refs ps done) (hall : rowsOf mk text.cps.toList = done ++ [(i, [])]) :
    Lv s g (RowsPost tab a b mk text) (.ref R) { s with heap := h, toks := tk } := by
  subst hx
  obtain ⟨vs, tc, he1, he2⟩ := hc
  have hr : RowsAre (refs ++ [Value.ref P]) (ps ++ [(P, W.listOf #[.int i t, .str (strOf []) u] 0)]) (rowsOf mk text.cps.toList) := by
    rw [hall]; exact .snoc P i [] t u 0 hra
  refine ⟨_, _, _, rfl, F, fun q hq => ?_, .mk R z.q.c z.oc vs tc (refs ++ [Value.ref P]) (ps ++ [(P, W.listOf #[.int i t, .str (strOf []) u] 0)]) 0 hPc he1 he2 hr⟩
  rcases List.mem_append.mp (show q ∈ [(tab, tabO a b z.q.c), (z.q.c, z.oc), (R, W.listOf (refs ++ [Value.ref P]).toArray 0)] ++ (ps ++ [(P, W.listOf #[.int i t, .str (strOf []) u] 0)]) from hq) with hq | hq
  · exact news_pick N [12, 8, 0] (M := [(tab, tabO a b z.q.c), (z.q.c, z.oc), (R, W.listOf (refs ++ [Value.ref P]).toArray 0)]) rfl q hq
  · rcases List.mem_append.mp hq with hq | hq
    · exact news_pickT N [] 14 (M := ps) rfl q hq
    · exact news_pick N [2] (M := [(P, W.listOf #[.int i t, .str (strOf []) u] 0)]) rfl q hq
/-- what the rest of the ledger is: none of the lexer's -/
theorem rows_hap {tab a b A lx : Addr} {z : Lx} {od opb oA : Obj} {l : List (Nat × Tok)} {n : Nat} {ps : List (Addr × Obj)} (nd : Ord z.S z.cl z.dy z.y z.F z.q.c z.dx z.x z.pb) (hS : tab < z.S) (hl : tab < z.cl) (hc : tab < z.q.c) (hA : @LT.lt Nat _ z.pb A) (hps : ∀ q ∈ ps, @LT.lt Nat _ A q.1) :
    ∀ q ∈ ((tab, tabO a b z.q.c) :: (A, oA) :: ps), q.1 ∉ (z.own lx od opb l n).map (·.1) := by
  intro q hq
  rcases List.mem_cons.mp hq with rfl | hq
  · exact Lx.part nd (.inr ⟨hS, hl, hc⟩)
  · refine Lx.part nd (.inl ?_)
    rcases List.mem_cons.mp hq with rfl | hq
    · exact hA
    · exact Nat.lt_trans hA (hps q hq)
theorem rows_front {tab a b A lx : Addr} {z : Lx} {od opb : Obj} {l : List (Nat × Tok)} {n : Nat} (nd : Ord z.S z.cl z.dy z.y z.F z.q.c z.dx z.x z.pb) (hA : @LT.lt Nat _ z.pb A) (ht : @LT.lt Nat _ tab A) : ∀ q ∈ (z.own lx od opb l n ++ [(tab, tabO a b z.q.c)]), q.1 ≠ A := by
  intro q hq e
  rcases List.mem_append.mp hq with hq | hq
  · exact Lx.part nd (.inl hA) (e ▸ List.mem_map_of_mem (f := fun x : Addr × Obj => x.1) hq)
  · rw [List.mem_singleton.mp hq] at e
    exact absurd e (Nat.ne_of_lt ht)
theorem page_fit {mk text : Str} (hlen : text.length ≤ 2000) : ((text.cps.toList.map (pg mk)).map (·.length)).sum + (text.cps.toList.map (pg mk)).length * 64 ≤ 16777216 := by
  have h1 := sum_pg mk text.cps.toList
  have h2 := len_toList text
  rw [List.length_map]
  omega
theorem page_short {mk text : Str} (hlen : text.length ≤ 2000) : (Txt.join (Str.ofString "") (text.cps.toList.map (pg mk))).length ≤ 4001 ∧ (Txt.join (Str.ofString "") (text.cps.toList.map (pg mk)) ++ Str.ofString "\n" : Str).length ≤ 4002 := by
  have hpl := page_len mk text.cps.toList
  have h2 := len_toList text
  rw [← page_eq mk text, Str.cps_append, Array.toList_append, List.length_append] at hpl
  have h3 : (Txt.join (Str.ofString "") (text.cps.toList.map (pg mk))).length ≤ 4001 := by rw [len_toList]; omega
  exact ⟨h3, by rw [Str.length_append]; exact Nat.add_le_add_right h3 1⟩
theorem page_signs {mk text : Str} {q : List (Nat × Tok)} {zs : List Value} (hlen : text.length ≤ 2000) (hq1 : q.map (·.1) = pageL mk text.cps.toList) (hq2 : zs.reverse = sigs q) : q.length ≤ 4001 ∧ zs.toArray.size ≤ sizeLine := by
  have hpl := page_len mk text.cps.toList
  have h2 := len_toList text
  have h3 : q.length ≤ 4001 := by rw [← List.length_map (f := fun x : Nat × Tok => x.1), hq1]; omega
  refine ⟨h3, ?_⟩
  rw [List.size_toArray, ← List.length_reverse, hq2, sigs_len, PySem.sizeLine_eq]
  omega
set_option maxRecDepth 100000 in
set_option maxHeartbeats 8000000 in
theorem rows_k (w : World) {p : Program} {loose : List Str} {mean : ExcName → Option Value} {mg mb : Str → Option Value} (tl : List (Addr × Obj)) (htl : Tabs 123 96 18 tl) (text mk : Str) (t1 t2 : Tok) (hlen : text.length ≤ 2000) :
    Ctr PySem.Challenge.rw_pm0015_01.row.prog w (Mine.hd.heap_39 w.params) p loose mean mg mb 12 200 133 [.str text t1, .str mk t2] tl (RowsPost 123 96 18 mk text) noErr noErrN := by
  k_fill
  ((k_dflt (refine' ctr_enterC ?k6 ?k7 ?k9 ?kB ?kD ?_ ?c2 ?c3 ?c4; (case k6 => k_is); (case k7 => k_is); (case k9 => exact fun _ => BindsTo.of_eq rfl); (case kB => exact rfl); (case kD => decide +kernel); (case c2 => exact rfl); (case c3 => exact rfl); (case c4 => exact rfl); k_whole)))
  intro dp un gd fr base g L h₁ s tk cells hd hu hg B F N Y X T hlt D
  k_cells Y
  rename _ = Data.cell _ => d1
  (try dsimp only)
  (try simp only [List.cons_append, List.nil_append] at N)
  (((try dsimp only); (with_reducible show wpAny _ _ _ _ _ _); k_fold))
  k_steps
  unfold Hold
  refine comp_text (h₀ := g) (L := L) F (by with_unfolding_all rfl) (by decide) (by rfl) (by decide) (by rfl) ?_
  (((try dsimp only); (with_reducible show wpAny _ _ _ _ _ _); k_fold))
  k_steps
  any_goals (first | exact Str.empty | exact Value.none | exact (0 : Nat))
  unfold Hold
  refine ⟨text, t1, _, _, rfl, F, N, ?_, ?_⟩
  · exact Nat.le_trans hlen (by rw [PySem.sizeLine_eq]; decide)
  intro g0
  refine rest_map (PgIs mk text) ?_ trivial ?_
  · rintro i v ys I oI C oC D0 m₂ h tk E' hi ⟨c, u, hc, rfl⟩ hC hx F1 N1 off ne
    clear F N
    dsimp only
    (with_reducible show wpAny _ _ _ _ _ _)
    k_steps
    · rename _ = true => hq
      (try unfold Hold)
      exact ⟨_, _, F1, N1, .of hc (by rw [pg, if_pos hq]; rfl) _⟩
    · rename _ = false => hq
      (try unfold Hold)
      exact ⟨_, _, F1, N1, .of hc (by rw [pg, if_neg (by rw [hq]; exact Bool.false_ne_true)]; rfl) _⟩
  · intro ys hyl hys D1 h2 tk2 F2 N2 o1
    clear F N
    dsimp only
    (((try dsimp only); (with_reducible show wpAny _ _ _ _ _ _); k_fold))
    k_steps
    unfold Hold
    dsimp only [List.cons_append, List.nil_append]
    refine join_listC (ys := text.cps.toList.map (pg mk)) ⟨_, (N2 (D1, LCg.lst ys) (List.mem_cons_self ..)).1, rfl, _, rfl⟩ ?_ (by decide) (page_fit hlen) ?_
    · exact strs_of _ _ (by simpa using hyl) (fun i v hi => by obtain ⟨c, t, hc⟩ := hys i v hi; exact ⟨c, t, by simpa using hc, rfl⟩)
    intro t3 k3
    have hpg := page_eq mk text
    obtain ⟨hjl, hln⟩ := page_short (mk := mk) hlen
    generalize Txt.join (Str.ofString "") (text.cps.toList.map (pg mk)) = pp at hpg hjl hln ⊢
    (((try dsimp only); (with_reducible show wpAny _ _ _ _ _ _); k_fold))
    k_steps
    any_goals (first | exact Str.empty | exact Value.none | exact (0 : Nat))
    unfold Hold
    (with_reducible rename Fr _ _ _ _ => F3)
    (with_reducible rename News _ _ _ _ => N3)
    refine list_strN rfl F3 (news_pickT (M := tl) N3 [] 2 rfl) (Nat.le_trans hln (by rw [PySem.sizeLine_eq]; decide)) ?_
    intro D2 cap h4 tk4 zs F4 N4 l4 ca4
    clear F3 N3
    (((try dsimp only); (with_reducible show wpAny _ _ _ _ _ _); k_fold))
    k_steps
    unfold Hold
    obtain ⟨q, hq1, hq2⟩ := signs_vals (pp ++ Str.ofString "\n" : Str).cps.toList zs ca4
    rw [hpg] at hq1
    clear ca4 hpg hjl hln
    obtain ⟨hql, hzl⟩ := page_signs hlen hq1 hq2
    have il4 : h4.IsList D2 zs.toArray := ⟨_, (N4 (D2, W.listOf zs.toArray cap) (List.mem_cons_self ..)).1, rfl, cap, rfl⟩
    refine' krv_lit (s := { s with heap := h4, toks := tk4 + 1 + 1 }) (its := zs.toArray) ?kF ?kN ?kl ?k hq2 ?_ ?s ?t ?z
    (case kF => exact F4)
    (case kN => exact N4)
    (case kl => exact il4)
    (case k => exact IsPart.int _ _)
    (case s => with_unfolding_all rfl)
    (case t => exact fun _ => rfl)
    (case z => exact hzl)
    intro D3 h5 F5 N5 l5
    have N6 : News g L h5 ([(D3, lstS q 0)] ++ tl) := news_pickT N5 [0] 2 rfl
    have l6 : ∀ q ∈ tl, q.1 < D3 := fun q hq => l5 q (List.mem_cons_of_mem _ hq)
    clear F4 N4 N5 l5 l4 il4 hzl hq2
    (((try dsimp only); (with_reducible show wpAny _ _ _ _ _ _); k_fold))
    k_steps
    unfold Hold
    refine ctr_use (rest := []) (lexer_k w D3 tl htl l6 q 0) B F5 X T D (by rw [List.append_nil]; exact news_swap N6) rfl rfl (lt_up 7 hd rfl) (lt_up 93 hu rfl) (fun _ h => nomatch h) ?_
    rintro v own' h6 tk6 ⟨z, zt, hzS, hPS, hPl, hPc, hz⟩ F6 N7 _
    clear F5 N6 l6 hzS
    replace N7 : News g L h6 (z.own 110 (z.od w 1 zt) (W.listOf #[] 0) q 0 ++ [(123, tabO 96 18 z.q.c)]) := news_swap (a := [(123, tabO 96 18 z.q.c)]) (news_fst N7)
    dsimp only
    (((try dsimp only); (with_reducible show wpAny _ _ _ _ _ _); k_fold))
    k_steps
    any_goals (first | exact Str.empty | exact Value.none | exact (0 : Nat))
    unfold Hold
    (with_reducible rename Fr _ _ _ _ => F8)
    (with_reducible rename News _ _ _ _ => N8)
    (with_reducible rename ∀ p : Addr × Obj, p ∈ _ → p.1 < _ => lA)
    first
      | (rename_i A ; have hAx : @LT.lt Nat _ 123 A := lA (123, tabO 96 18 z.q.c) (List.mem_append_right _ (List.mem_cons_self ..)); clear hAx)
      | (rename_i A _; have hAx : @LT.lt Nat _ 123 A := lA (123, tabO 96 18 z.q.c) (List.mem_append_right _ (List.mem_cons_self ..)); clear hAx)
      | (rename_i A _ _; have hAx : @LT.lt Nat _ 123 A := lA (123, tabO 96 18 z.q.c) (List.mem_append_right _ (List.mem_cons_self ..)); clear hAx)
      | (rename_i A _ _ _; have hAx : @LT.lt Nat _ 123 A := lA (123, tabO 96 18 z.q.c) (List.mem_append_right _ (List.mem_cons_self ..)); clear hAx)
      | (rename_i A _ _ _ _; have hAx : @LT.lt Nat _ 123 A := lA (123, tabO 96 18 z.q.c) (List.mem_append_right _ (List.mem_cons_self ..)); clear hAx)
      | (rename_i A _ _ _ _ _; have hAx : @LT.lt Nat _ 123 A := lA (123, tabO 96 18 z.q.c) (List.mem_append_right _ (List.mem_cons_self ..)); clear hAx)
      | (rename_i A _ _ _ _ _ _; have hAx : @LT.lt Nat _ 123 A := lA (123, tabO 96 18 z.q.c) (List.mem_append_right _ (List.mem_cons_self ..)); clear hAx)
      | (rename_i A _ _ _ _ _ _ _; have hAx : @LT.lt Nat _ 123 A := lA (123, tabO 96 18 z.q.c) (List.mem_append_right _ (List.mem_cons_self ..)); clear hAx)
      | (rename_i A _ _ _ _ _ _ _ _; have hAx : @LT.lt Nat _ 123 A := lA (123, tabO 96 18 z.q.c) (List.mem_append_right _ (List.mem_cons_self ..)); clear hAx)
    have htA : @LT.lt Nat _ 123 A := lA (123, tabO 96 18 z.q.c) (List.mem_append_right _ (List.mem_cons_self ..))
    have hzA : @LT.lt Nat _ z.pb A := lA (z.pb, W.listOf #[] 0) (List.mem_append_left _ Lx.mem_pb)
    clear lA
    refine ctr_use (own := z.own 110 (z.od w 1 zt) (W.listOf #[] 0) q 0) (rest := [(123, tabO 96 18 z.q.c), (A, W.listOf #[] 0)]) (token_k w z hz 1 zt 0 q 0 (Nat.le_trans hql (by decide))) B F8 X T D (news_swap (a := [_]) N8) rfl rfl (lt_up 9 hd rfl) (lt_up 103 hu rfl) (rows_hap hz.nd hPS hPl hPc hzA (fun _ h => nomatch h)) ?_
    rintro v own' h7 tk7 ⟨l', n', t', u, pre, hpre, hl'⟩ F9 N9 _
    clear F8 N8
    dsimp only
    (((try dsimp only); (with_reducible show wpAny _ _ _ _ _ _); k_fold))
    k_steps
    (try unfold Hold)
    (with_reducible rename Fr _ _ _ _ => F10)
    (with_reducible rename News _ _ _ _ => N10)
    rw [show (1 : Int) + nls (pre.map (·.1)) = 1 + nls (pageL mk text.cps.toList) - nls (l'.map (·.1)) from by rw [← nls_left hpre, hq1]; omega] at N10
    refine while_inv (fun k mm news => rowInv 110 123 96 18 w z (1 + nls (pageL mk text.cps.toList)) (rowsOf mk text.cps.toList) A mm k news) (n₀ := l'.length + (if (token (q.map (·.1))).1 = [] then 0 else 1)) F10 N10 (.mk (by rfl) (by rfl) l' n' t' (token (q.map (·.1))).1 1 _ _ [] [] [] (pageL mk text.cps.toList).length 0 (by rfl) (by rfl) (.start (pre := pre) hq1 hql hl') .nil (fun _ h => nomatch h)) ?_
    clear F10 N10 hpre hl' hql hq1
    rintro k m₁ news₁ h tk1 ⟨hml, hmr, l', n', t', wd, ends, u, te, refs, ps, done, fuel, cap2, hme, hmw, hst, hra, hps⟩ F N
    have hlen' := hst.len
    have hlen1 := hlen'.2
    k_steps
    any_goals (first | exact Str.empty | exact Value.none | exact (0 : Nat))
    · unfold Hold
      (with_reducible rename Fr _ _ _ _ => F11)
      (with_reducible rename News _ _ _ _ => N11)
      rename (_ != _) = true => hwd
      have hwd' := word_ne hwd
      (with_reducible rename ∀ p : Addr × Obj, p ∈ _ → p.1 < _ => lP)
      rw [count_nls] at N11
      have hAP := lP (A, W.listOf refs.toArray cap2) (List.mem_append_right _ (List.mem_cons_of_mem _ (List.mem_cons_self ..)))
      clear lP
      refine app_step (front := z.own 110 (z.od w (1 + nls (pageL mk text.cps.toList) - nls (l'.map (·.1))) t') (W.listOf #[] 0) l' n' ++ [(123, tabO 96 18 z.q.c)]) F11 N11 (Nat.ne_of_lt hAP) (rows_front hz.nd hzA htA) (fun q hq => Nat.ne_of_gt (hps q hq)) (Nat.le_trans hlen'.2 (by rw [PySem.sizeLine_eq]; decide)) ?_
      intro h9 F12 N12
      clear F11 N11
      rw [List.append_assoc, List.singleton_append] at N12
      (((try dsimp only); (with_reducible show wpAny _ _ _ _ _ _); k_fold))
      k_steps
      any_goals (first | exact Str.empty | exact Value.none | exact (0 : Nat))
      unfold Hold
      (with_reducible rename Fr _ _ _ _ => F13)
      (with_reducible rename News _ _ _ _ => N13)
      have hps' := fun oP => after_snoc oP hps hAP
      refine ctr_use (own := z.own 110 (z.od w (1 + nls (pageL mk text.cps.toList) - nls (l'.map (·.1))) t') (W.listOf #[] 0) l' n') (rest := (123, tabO 96 18 z.q.c) :: (A, W.listOf (refs ++ [Value.ref _]).toArray (cap2 + 1)) :: (ps ++ [(_, _)])) (token_k w z hz _ t' 0 l' n' hlen'.1) B F13 X T D N13 rfl rfl (lt_up 9 hd rfl) (lt_up 103 hu rfl) (rows_hap hz.nd hPS hPl hPc hzA (hps' _)) ?_
      rintro v own' h14 tk14 ⟨l₂, n₂, t₂, u₂, pre₂, hpre₂, hl₂⟩ F14 N14 _
      clear F13 N13
      rw [nls_left hpre₂] at N14
      dsimp only
      (((try dsimp only); (with_reducible show wpAny _ _ _ _ _ _); k_fold))
      k_steps
      (try unfold Hold)
      (with_reducible rename Fr _ _ _ _ => F15)
      (with_reducible rename News _ _ _ _ => N15)
      obtain ⟨hst', hk⟩ := hst.step hwd' hl₂
      dsimp only [TurnEnd]
      exact ⟨l₂.length + (if (token (l'.map (·.1))).1 = [] then 0 else 1), _, _, _, _, hk, rfl, F15, N15, .mk (by exact hml) (by exact hmr) l₂ n₂ _ (token (l'.map (·.1))).1 (ends + nls wd) _ _ (refs ++ [Value.ref _]) (ps ++ [(_, _)]) (done ++ [(_, wd)]) (fuel - 1) (cap2 + 1) (by first | rfl | (rw [← count_nls]; rfl)) (by rfl) (by rw [List.length_append, List.length_singleton]; exact hst') (.snoc _ _ wd _ _ _ hra) (hps' _)⟩
    · (with_reducible rename Fr _ _ _ _ => F10)
      (with_reducible rename News _ _ _ _ => N10)
      refine add_lists (vs := refs) (ws := [Value.ref _]) F10 N10 ⟨_, (N10 (A, W.listOf refs.toArray cap2) (List.mem_cons_of_mem _ (List.mem_cons_of_mem _ (List.mem_append_right _ (List.mem_cons_of_mem _ (List.mem_cons_self ..)))))).1, rfl, _, rfl⟩ ⟨_, (N10 _ (List.mem_cons_self ..)).1, rfl, _, rfl⟩ ?_ ?hz
      (case hz => exact Nat.le_trans (Nat.add_le_add_right hlen1 1) (by rw [PySem.sizeLine_eq]; decide))
      intro h12 F11 N11
      clear F10 N10
      k_steps
      (try unfold Hold)
      rename (_ != _) = false => hwd
      (try show Lv s g _ _ _)
      exact rows_pack (x := Str.ofString "") F11 N11 hPc (by decide +kernel) hz.code hra (hst.fin (word_nil hwd))
end
-- part pl5
/-! the rows of a page against the parts of the text -/
noncomputable def escL (p : List Nat) : List Nat := p.flatMap fun x => [92, x]
noncomputable def pagesOf (qs : List (List Nat)) : List Nat := qs.flatMap fun p => escL p ++ [10]
noncomputable def partRows : Int → List (List Nat) → List (Int × List Nat)
  | i, [] => [(i - 1, [])]
  | i, p :: r => (if p = [] then [] else [(i, p)]) ++ partRows (i + 1) r
theorem pg_one (c d : Nat) : (pg ⟨#[c]⟩ d).cps.toList = if d = c then [10] else [92, d] := by
  unfold pg
  by_cases h : d = c
  · subst h; simp
  · have : ((⟨#[d]⟩ : Str) == ⟨#[c]⟩) = false := by
      rw [beq_eq_false_iff_ne]; intro e; exact h (by injection e with e; simpa using e)
    simp [this, h]
theorem page_split (c : Nat) : ∀ l : List Nat, pageL ⟨#[c]⟩ l = pagesOf (splitL c l)
  | [] => rfl
  | d :: l => by
    have ih := page_split c l
    have e : pageL ⟨#[c]⟩ (d :: l) = (pg ⟨#[c]⟩ d).cps.toList ++ pageL ⟨#[c]⟩ l := by simp [pageL, List.append_assoc]
    rw [e, ih, pg_one, splitL]
    by_cases h : d = c
    · simp [h, pagesOf, escL]
    · rw [if_neg h, if_neg h]
      cases hs : splitL c l with
      | nil => exact absurd hs (splitL_ne c l)
      | cons p r => simp [pagesOf, escL]
theorem bare_escL (rest : List Nat) : ∀ (p acc : List Nat), bare acc (escL p ++ 10 :: rest) = (acc ++ p, rest)
  | [], acc => by rw [bare.eq_def]; simp [escL, isWs]
  | x :: p, acc => by
    have ih := bare_escL rest p (acc ++ [x])
    rw [bare.eq_def]
    simp only [escL, List.flatMap_cons, List.cons_append, List.nil_append] at ih ⊢
    simp only [isWs, show ((92 : Nat) == 10) = false from rfl, show ((92 : Nat) == 9) = false from rfl, show ((92 : Nat) == 13) = false from rfl, show ((92 : Nat) == 32) = false from rfl, Bool.or_self, Bool.false_eq_true, if_false, if_true]
    rw [ih]; simp
theorem token_part (p rest : List Nat) (h : p ≠ []) : token (escL p ++ 10 :: rest) = (p, rest) := by
  cases p with
  | nil => exact absurd rfl h
  | cons x p =>
    have ih := bare_escL rest p [x]
    rw [token.eq_def]
    simp only [escL, List.flatMap_cons, List.cons_append, List.nil_append] at ih ⊢
    simp only [isWs, show ((92 : Nat) == 10) = false from rfl, show ((92 : Nat) == 9) = false from rfl, show ((92 : Nat) == 13) = false from rfl, show ((92 : Nat) == 32) = false from rfl, Bool.or_self, Bool.false_eq_true, if_false, if_true]
    rw [if_neg (by decide), ih]
theorem nls_esc : ∀ p : List Nat, nls (escL p) = nls p
  | [] => rfl
  | x :: p => by
    have ih := nls_esc p
    rw [show escL (x :: p) = [92] ++ [x] ++ escL p from by simp [escL], nls_app, nls_app, ih, show x :: p = [x] ++ p from rfl, nls_app]
    rw [show nls [92] = 0 from by decide]; omega
theorem pages_cons (p : List Nat) (r : List (List Nat)) : pagesOf (p :: r) = escL p ++ 10 :: pagesOf r := by simp [pagesOf]
theorem rows_parts (T : Int) : ∀ (qs : List (List Nat)) (k : Nat) (i ends : Int), (pagesOf qs).length < k → T - nls (pagesOf qs) - ends = i - 1 → rowsL T k (pagesOf qs) ends = partRows i qs
  | [], k, i, ends, hk, he => by
    obtain ⟨k, rfl⟩ : ∃ j, k = j + 1 := ⟨k - 1, by omega⟩
    rw [rowsL_succ]
    show rowsT T k [] [] ends = [(i - 1, [])]
    rw [rowsT, if_pos rfl]
    rw [show nls (pagesOf []) = 0 from rfl] at he
    rw [show nls [] = 0 from rfl, he]
  | p :: r, k, i, ends, hk, he => by
    rw [pages_cons] at hk he ⊢
    have hn : nls (escL p ++ 10 :: pagesOf r) = nls p + 1 + nls (pagesOf r) := by
      rw [show escL p ++ 10 :: pagesOf r = escL p ++ ([10] ++ pagesOf r) from rfl, nls_app, nls_app, nls_esc, show nls [10] = 1 from by decide]; omega
    rw [hn] at he
    rw [partRows]
    by_cases hp : p = []
    · subst hp
      have hl : (pagesOf r).length < k := by simp [escL] at hk; omega
      obtain ⟨k, rfl⟩ : ∃ j, k = j + 1 := ⟨k - 1, by omega⟩
      have e : token (escL [] ++ 10 :: pagesOf r) = token (pagesOf r) := token_ws (by decide)
      rw [if_pos rfl, List.nil_append, rowsL_succ, e, ← rowsL_succ]
      refine rows_parts T r (k + 1) (i + 1) ends hl ?_
      rw [show nls [] = 0 from rfl] at he
      omega
    · obtain ⟨k, rfl⟩ : ∃ j, k = j + 1 := ⟨k - 1, by omega⟩
      rw [rowsL_succ, token_part p _ hp, if_neg hp, rowsT, if_neg hp, List.singleton_append]
      have hlp : (pagesOf r).length < k := by
        rw [List.length_append, List.length_cons] at hk
        have : 0 < (escL p).length := by
          cases p with
          | nil => exact absurd rfl hp
          | cons x p => simp [escL]
        omega
      rw [rows_parts T r k (i + 1) (ends + nls p) hlp (by omega)]
      rw [show T - nls (pagesOf r) - (ends + nls p) = i by omega]
theorem rows_eq (c : Nat) (l : List Nat) : rowsOf ⟨#[c]⟩ l = partRows 1 (splitL c l) := by
  rw [rowsOf, page_split]
  exact rows_parts _ _ _ _ _ (Nat.lt_succ_self _) (by omega)
theorem rows_nil (mk : Str) : rowsOf mk [] = [(1, [])] := by
  have h : rowsL (1 + nls [10]) 2 [10] 1 = [(1, [])] := by decide +kernel
  exact h
/-- what the rows tell of the port -/
noncomputable def rows4 (rs : List (Int × List Nat)) : List Nat := (rs.filter fun p => decide (p.1 = 4)).flatMap (·.2)
noncomputable def big5 (rs : List (Int × List Nat)) : List Int := (rs.filter fun p => decide (p.1 > 4)).map (·.1)
theorem big_none : ∀ (qs : List (List Nat)) (i : Int), 5 ≤ i → rows4 (partRows (i) qs) = [] ∨ (i = 5 ∧ qs = []) := by
  intro qs
  induction qs with
  | nil =>
    intro i hi
    by_cases h : i = 5
    · exact .inr ⟨h, rfl⟩
    · left
      simp only [rows4, partRows]
      rw [List.filter_cons, if_neg (by simp; omega)]; rfl
  | cons p r ih =>
    intro i hi
    left
    rw [rows4, partRows, List.filter_append, List.flatMap_append]
    have h1 : ((if p = [] then [] else [(i, p)]).filter fun p : Int × List Nat => decide (p.1 = 4)) = [] := by
      split
      · rfl
      · rw [List.filter_cons, if_neg (by simp; omega)]; rfl
    rw [h1]
    rcases ih (i + 1) (by omega) with h | ⟨h, _⟩
    · exact h
    · omega
theorem big_last : ∀ (qs : List (List Nat)) (i : Int), (big5 (partRows i qs)).getLast? = some 5 → i + qs.length = 6 := by
  intro qs
  induction qs with
  | nil =>
    intro i h
    simp only [big5, partRows] at h
    by_cases h4 : i - 1 > 4
    · rw [List.filter_cons, if_pos (by simpa using h4)] at h
      simp at h; simp; omega
    · rw [List.filter_cons, if_neg (by simpa using h4)] at h
      simp at h
  | cons p r ih =>
    intro i h
    rw [big5, partRows, List.filter_append, List.map_append] at h
    have hne : (big5 (partRows (i + 1) r)).getLast? = some 5 := by
      rw [List.getLast?_append] at h
      cases hq : (big5 (partRows (i + 1) r)).getLast? with
      | some v => rw [show ((partRows (i + 1) r).filter fun p => decide (p.1 > 4)).map (·.1) = big5 (partRows (i + 1) r) from rfl, hq] at h; simpa using h
      | none =>
        exfalso
        have e := List.getLast?_eq_none_iff.mp hq
        rw [show ((partRows (i + 1) r).filter fun p => decide (p.1 > 4)).map (·.1) = big5 (partRows (i + 1) r) from rfl, e] at h
        -- the last row of all is above 4 when this one is
        have hi : i = 5 := by
          by_cases hp : p = []
          · rw [if_pos hp] at h; simp at h
          · rw [if_neg hp] at h
            by_cases h4 : i > 4
            · rw [List.filter_cons, if_pos (by simpa using h4)] at h; simpa using h
            · rw [List.filter_cons, if_neg (by simpa using h4)] at h; simp at h
        have big_ne : ∀ (qs : List (List Nat)) (j : Int), j > 5 → big5 (partRows j qs) ≠ [] := by
          intro qs
          induction qs with
          | nil => intro j hj; simp only [big5, partRows]; rw [List.filter_cons, if_pos (by simp; omega)]; simp
          | cons p r ih => intro j hj; rw [big5, partRows, List.filter_append, List.map_append]; intro e; exact ih (j + 1) (by omega) (List.append_eq_nil_iff.mp e).2
        exact big_ne r (i + 1) (by omega) e
    have := ih (i + 1) hne
    rw [List.length_cons]; omega
theorem big_step {i : Int} (p : List Nat) (r : List (List Nat)) (h : ¬ i > 4) : big5 (partRows i (p :: r)) = big5 (partRows (i + 1) r) := by
  rw [big5, partRows, List.filter_append, List.map_append]
  split
  · rfl
  · rw [List.filter_cons, if_neg (by simpa using h)]; rfl
theorem four_step {i : Int} (p : List Nat) (r : List (List Nat)) (h : i ≠ 4) : rows4 (partRows i (p :: r)) = rows4 (partRows (i + 1) r) := by
  rw [rows4, partRows, List.filter_append, List.flatMap_append]
  split
  · rfl
  · rw [List.filter_cons, if_neg (by simpa using h)]; rfl
theorem five (p1 p2 p3 p4 p5 : List Nat) : big5 (partRows 1 [p1, p2, p3, p4, p5]) = (if p5 = [] then [5] else [5, 5]) ∧ rows4 (partRows 1 [p1, p2, p3, p4, p5]) = p4 := by
  constructor
  · rw [big_step _ _ (by decide), big_step _ _ (by decide), big_step _ _ (by decide), big_step _ _ (by decide), partRows]
    split <;> rfl
  · rw [four_step _ _ (by decide), four_step _ _ (by decide), four_step _ _ (by decide), rows4, partRows, List.filter_append, List.flatMap_append]
    have h : ((partRows (1 + 1 + 1 + 1 + 1) [p5]).filter fun p => decide (p.1 = 4)) = [] := by
      rw [partRows]
      split <;> rfl
    rw [h, List.flatMap_nil, List.append_nil]
    split
    · rename_i h4
      rw [h4]; rfl
    · show (p4 ++ [] : List Nat) = p4
      exact List.append_nil p4
theorem last_part (c : Nat) : ∀ l : List Nat, l ≠ [] → ((splitL c l).getLast? = some [] ↔ l.getLast? = some c)
  | [], h => absurd rfl h
  | [a], _ => by
    by_cases h : a = c
    · simp [splitL, h]
    · simp [splitL, h]
  | a :: b :: r, _ => by
    have ih := last_part c (b :: r) (by simp)
    have hl : (a :: b :: r).getLast? = (b :: r).getLast? := List.getLast?_cons_cons
    rw [hl, ← ih, splitL]
    by_cases h : a = c
    · rw [if_pos h]
      cases hs : splitL c (b :: r) with
      | nil => exact absurd hs (splitL_ne c _)
      | cons p t => rw [List.getLast?_cons_cons]
    · rw [if_neg h]
      cases hs : splitL c (b :: r) with
      | nil => exact absurd hs (splitL_ne c _)
      | cons p t =>
        cases t with
        | nil =>
          have hb := hs
          rw [splitL] at hb
          by_cases h2 : b = c
          · rw [if_pos h2] at hb
            have := splitL_ne c r
            simp only [List.cons.injEq] at hb
            exact absurd hb.2 this
          · rw [if_neg h2] at hb
            cases hs2 : splitL c r with
            | nil => exact absurd hs2 (splitL_ne c _)
            | cons x y =>
              rw [hs2] at hb
              simp only [List.cons.injEq] at hb
              simp [← hb.1]
        | cons q u => simp only [List.getLast?_cons_cons]
theorem due_port (l : List Nat) : (port229 l = none → big5 (rowsOf ⟨(l.take 1).toArray⟩ l) ≠ [5]) ∧ (∀ y, port229 l = some y → big5 (rowsOf ⟨(l.take 1).toArray⟩ l) = [5] ∧ rows4 (rowsOf ⟨(l.take 1).toArray⟩ l) = y) := by
  cases l with
  | nil => rw [rows_nil]; exact ⟨fun _ => by decide, fun y h => by cases h⟩
  | cons c r =>
    rw [show (⟨((c :: r).take 1).toArray⟩ : Str) = ⟨#[c]⟩ from rfl, rows_eq, port229]
    have hlp := last_part c (c :: r) (by simp)
    by_cases h5 : (splitL c (c :: r)).length = 5
    · obtain ⟨p1, p2, p3, p4, p5, hq⟩ : ∃ p1 p2 p3 p4 p5, splitL c (c :: r) = [p1, p2, p3, p4, p5] := by
        generalize splitL c (c :: r) = q at h5
        match q, h5 with
        | [p1, p2, p3, p4, p5], _ => exact ⟨_, _, _, _, _, rfl⟩
      rw [hq] at hlp ⊢
      obtain ⟨e1, e2⟩ := five p1 p2 p3 p4 p5
      rw [e1, e2]
      by_cases hp : p5 = []
      · have hl := hlp.mp (by simp [hp])
        rw [if_pos ⟨hl, rfl⟩, if_pos hp]
        exact ⟨fun h => by simp at h, fun y h => ⟨rfl, by simpa using h⟩⟩
      · have hl : ¬ ((c :: r).getLast? = some c) := fun h => hp (by simpa using hlp.mpr h)
        rw [if_neg (fun h => hl h.1), if_neg hp]
        exact ⟨fun _ => by decide, fun y h => by cases h⟩
    · rw [if_neg (fun h => h5 h.2)]
      refine ⟨fun _ e => ?_, fun y h => by cases h⟩
      have := big_last (splitL c (c :: r)) 1 (by rw [e]; rfl)
      omega
/-- what the rows tell of the name -/
noncomputable def dueN : List (Int × List Nat) → Int → List Nat
  | [], _ => []
  | (b, wd) :: r, row => List.replicate ((b - row) / 2).toNat 34 ++ (if (b - row) % 2 = 1 then [] else wd ++ dueN r b)
noncomputable def tlQ (qs : List (List Nat)) : List Nat := qs.flatMap fun p => 34 :: p
theorem name_free : ∀ (p t : List Nat), 34 ∉ p → name257 (p ++ t) = p ++ name257 t
  | [], t, _ => rfl
  | c :: p, t, h => by
    have hc : c ≠ 34 := fun e => h (by rw [e]; exact List.mem_cons_self ..)
    rw [List.cons_append, name_ne hc, name_free p t (fun m => h (List.mem_cons_of_mem _ m))]; rfl
theorem name_quotes : ∀ (n : Nat) (t : List Nat), (∀ r, t ≠ 34 :: r) → name257 (List.replicate n 34 ++ t) = List.replicate (n / 2) 34 ++ (if n % 2 = 1 then [] else name257 t)
  | 0, t, _ => by simp
  | 1, t, h => by
    rw [show List.replicate 1 34 ++ t = 34 :: t from rfl, name_q h]; rfl
  | n + 2, t, h => by
    rw [show List.replicate (n + 2) 34 ++ t = 34 :: 34 :: (List.replicate n 34 ++ t) from rfl, show name257 (34 :: 34 :: (List.replicate n 34 ++ t)) = 34 :: name257 (List.replicate n 34 ++ t) from by simp [name257], name_quotes n t h,
      show (n + 2) / 2 = n / 2 + 1 from Nat.add_div_right n (by decide), Nat.add_mod_right]; rfl
theorem due_tail : ∀ (qs : List (List Nat)) (d : Nat) (i row : Int), i - 1 - row = d → (∀ p ∈ qs, 34 ∉ p) → dueN (partRows i qs) row = name257 (List.replicate d 34 ++ tlQ qs)
  | [], d, i, row, h, _ => by
    rw [tlQ, show ([] : List (List Nat)).flatMap (fun p => 34 :: p) = [] from rfl, name_quotes d [] (by simp), partRows, dueN, h, dueN]
    have e1 : ((d : Int) / 2).toNat = d / 2 := rfl
    rw [e1]
    by_cases h2 : d % 2 = 1
    · rw [if_pos h2, if_pos (show (d : Int) % 2 = 1 from congrArg Int.ofNat h2)]
    · rw [if_neg h2, if_neg (show ¬ (d : Int) % 2 = 1 from fun e => h2 (Int.ofNat.inj e))]; rfl
  | p :: r, d, i, row, h, hq => by
    have hr : ∀ p ∈ r, 34 ∉ p := fun p hp => hq p (List.mem_cons_of_mem _ hp)
    rw [partRows, show tlQ (p :: r) = 34 :: (p ++ tlQ r) from by simp [tlQ]]
    by_cases hp : p = []
    · subst hp
      rw [if_pos rfl, List.nil_append, due_tail r (d + 1) (i + 1) row (by omega) hr]
      congr 1
      rw [List.replicate_succ', List.append_assoc]; rfl
    · rw [if_neg hp, List.singleton_append, dueN, due_tail r 0 (i + 1) i (by omega) hr]
      have e0 : List.replicate d 34 ++ 34 :: (p ++ tlQ r) = List.replicate (d + 1) 34 ++ (p ++ tlQ r) := by rw [List.replicate_succ', List.append_assoc]; rfl
      have hpf := hq p (List.mem_cons_self ..)
      have hne : ∀ t, p ++ tlQ r ≠ 34 :: t := fun t e => by
        cases p with
        | nil => exact hp rfl
        | cons x p => exact hpf (by rw [List.cons_append] at e; rw [← (List.cons.inj e).1]; exact List.mem_cons_self ..)
      rw [e0, name_quotes (d + 1) _ hne, name_free p _ hpf, show i - row = ((d + 1 : Nat) : Int) by omega]
      have e1 : (((d + 1 : Nat) : Int) / 2).toNat = (d + 1) / 2 := rfl
      rw [e1]
      by_cases h2 : (d + 1) % 2 = 1
      · rw [if_pos h2, if_pos (show ((d + 1 : Nat) : Int) % 2 = 1 from congrArg Int.ofNat h2)]
      · rw [if_neg h2, if_neg (show ¬ ((d + 1 : Nat) : Int) % 2 = 1 from fun e => h2 (Int.ofNat.inj e))]; rfl
theorem split_tl (c : Nat) : ∀ l : List Nat, ∃ p r, splitL c l = p :: r ∧ l = p ++ r.flatMap (fun p => c :: p) ∧ (∀ q ∈ p :: r, c ∉ q)
  | [] => ⟨[], [], rfl, rfl, by simp⟩
  | a :: l => by
    obtain ⟨p, r, e, h, hf⟩ := split_tl c l
    rw [splitL]
    by_cases ha : a = c
    · refine ⟨[], p :: r, by rw [if_pos ha, e], ?_, ?_⟩
      · rw [List.nil_append, List.flatMap_cons, ha, List.cons_append, ← h]
      · intro q hq
        rcases List.mem_cons.mp hq with rfl | hq
        · simp
        · exact hf q hq
    · refine ⟨a :: p, r, by rw [if_neg ha, e], by rw [List.cons_append, ← h], ?_⟩
      intro q hq
      rcases List.mem_cons.mp hq with rfl | hq
      · intro hm
        rcases List.mem_cons.mp hm with h | hm
        · exact ha h.symm
        · exact hf p (List.mem_cons_self ..) hm
      · exact hf q (List.mem_cons_of_mem _ hq)
theorem due_name (l : List Nat) : dueN (rowsOf ⟨#[34]⟩ l) 1 = name257 l := by
  rw [rows_eq]
  obtain ⟨p, r, e, h, hf⟩ := split_tl 34 l
  have hr : ∀ q ∈ r, 34 ∉ q := fun q hq => hf q (List.mem_cons_of_mem _ hq)
  rw [e, h, name_free p _ (hf p (List.mem_cons_self ..)), partRows]
  have ht := due_tail r 0 2 1 (by omega) hr
  by_cases hp : p = []
  · subst hp
    rw [if_pos rfl, List.nil_append]; exact ht
  · rw [if_neg hp, List.singleton_append, dueN]
    show _ ++ (if (0 : Int) = 1 then [] else p ++ dueN (partRows (1 + 1) r) 1) = _
    rw [if_neg (by decide), show (1 + 1 : Int) = 2 from rfl, ht]; rfl
-- part pl6
theorem RowsAre.len {vs : List Value} {ps : List (Addr × Obj)} {r : List (Int × List Nat)} (h : RowsAre vs ps r) : vs.length = r.length := by
  induction h with
  | nil => rfl
  | snoc a i x t u n _ ih => simp [ih]
theorem RowsAre.at {vs : List Value} {ps : List (Addr × Obj)} {r : List (Int × List Nat)} (h : RowsAre vs ps r) : ∀ (i : Nat) (b : Int) (wd : List Nat), r[i]? = some (b, wd) → ∃ a t u n, vs[i]? = some (.ref a) ∧ (a, W.listOf #[.int b t, .str (strOf wd) u] n) ∈ ps := by
  induction h with
  | nil => intro i b wd e; simp at e
  | snoc a j x t u n hr ih =>
    intro i b wd e
    rcases snoc_at e with ⟨hlt, e'⟩ | ⟨rfl, e'⟩
    · obtain ⟨a', t', u', n', e1, e2⟩ := ih i b wd e'
      exact ⟨a', t', u', n', by rw [List.getElem?_append_left (hr.len ▸ hlt)]; exact e1, List.mem_append_left _ e2⟩
    · cases e'
      exact ⟨a, t, u, n, by rw [← hr.len, List.getElem?_concat_length], List.mem_append_right _ (List.mem_singleton.mpr rfl)⟩
theorem name_len : ∀ l : List Nat, (name257 l).length ≤ l.length
  | [] => Nat.le_refl _
  | [c] => by rw [name257]; split <;> simp
  | c :: d :: r => by
    rw [name257]
    split
    · split
      · exact Nat.succ_le_succ (Nat.le_succ_of_le (name_len r))
      · simp
    · exact Nat.succ_le_succ (name_len (d :: r))
theorem rowsL_len (T : Int) : ∀ (k : Nat) (l : List Nat) (e : Int), (rowsL T k l e).length ≤ k
  | 0, _, _ => Nat.le_refl _
  | k + 1, l, e => by
    rw [rowsL_succ, rowsT]
    split
    · simp
    · exact Nat.succ_le_succ (rowsL_len T k (token l).2 (e + nls (token l).1))
theorem rows_len (mk : Str) (l : List Nat) : (rowsOf mk l).length ≤ 2 * l.length + 2 := Nat.le_trans (rowsL_len ..) (Nat.succ_le_succ (page_len mk l))
theorem mulok_one {x : Str} {n : Int} (hx : x.length = 1) (h0 : -10000 ≤ n) (h : n ≤ 10000) : MulOk x n := by
  refine ⟨?_, fun h1 _ => ?_, fun h1 _ => ?_⟩
  · rw [Bool.or_eq_false_iff]; exact ⟨decide_eq_false (by omega), decide_eq_false (by omega)⟩
  · rw [hx]
    have : (1 : Int) ≤ (2 ^ 63 - 1) / n := (Int.le_ediv_iff_mul_le (by omega)).mpr (by omega)
    exact Int.not_lt.mpr this
  · rw [hx]; unfold Builtin.Str.tooLong; rw [PySem.sizeLine_eq]; simp; omega
theorem partRows_bound : ∀ (qs : List (List Nat)) (i : Int), ∀ q ∈ partRows i qs, i - 1 ≤ q.1 ∧ q.1 ≤ i - 1 + qs.length
  | [], i, q, hq => by rw [partRows, List.mem_singleton] at hq; subst hq; simp
  | p :: r, i, q, hq => by
    rw [partRows] at hq
    rw [List.length_cons]
    rcases List.mem_append.mp hq with hq | hq
    · have : q.1 = i := by
        by_cases hp : p = []
        · rw [if_pos hp] at hq; simp at hq
        · rw [if_neg hp, List.mem_singleton] at hq; rw [hq]
      omega
    · have := partRows_bound r (i + 1) q hq
      omega
theorem split_len_le (c : Nat) : ∀ l : List Nat, (splitL c l).length ≤ l.length + 1
  | [] => by simp [splitL]
  | a :: r => by
    have ih := split_len_le c r
    rw [splitL]
    split
    · exact Nat.succ_le_succ ih
    · split
      · rename_i h; rw [h] at ih; exact Nat.le_succ_of_le ih
      · simp
theorem rows_bound (c : Nat) (l : List Nat) : ∀ q ∈ rowsOf ⟨#[c]⟩ l, 0 ≤ q.1 ∧ q.1 ≤ l.length + 1 := by
  rw [rows_eq]
  intro q hq
  have h1 := partRows_bound _ _ q hq
  have h2 := split_len_le c l
  omega
theorem fdiv_two (n : Int) : n.fdiv 2 = n / 2 := Int.fdiv_eq_ediv_of_nonneg n (by decide)
theorem fmod_two (n : Int) : n.fmod 2 = n % 2 := Int.fmod_eq_emod_of_nonneg n (by decide)
theorem till_len : ∀ (r acc : List Nat), (tillClose acc r).length ≤ acc.length + r.length
  | [], acc => by simp [tillClose]
  | c :: r, acc => by
    rw [tillClose]
    split
    · simp
    · have := till_len r (acc ++ [c])
      rwa [List.length_append, List.length_singleton, Nat.add_assoc, Nat.add_comm 1] at this
theorem insideL_len : ∀ l : List Nat, (insideL l).length ≤ l.length
  | [] => by simp [insideL]
  | c :: r => by
    rw [insideL]
    split
    · have := till_len r []
      rw [List.length_nil, Nat.zero_add] at this
      exact Nat.le_succ_of_le this
    · exact Nat.le_succ_of_le (insideL_len r)
/-- the pairs that lie in the rows -/
inductive PrsAre : List (Value × Value) → List (Int × List Nat) → Prop
  | nil : PrsAre [] []
  | snoc {ps r} (i : Int) (x : List Nat) (t u : Tok) : PrsAre ps r → PrsAre (ps ++ [(.int i t, .str (strOf x) u)]) (r ++ [(i, x)])
theorem RowsAre.prs {vs : List Value} {ps : List (Addr × Obj)} {r : List (Int × List Nat)} (h : RowsAre vs ps r) :
    ∃ prs, PrsAre prs r ∧ prs.length = vs.length ∧ ∀ (i : Nat) (v : Value) (q : Value × Value), vs[i]? = some v → prs[i]? = some q → ∃ a n, v = .ref a ∧ (a, W.listOf #[q.1, q.2] n) ∈ ps := by
  induction h with
  | nil => exact ⟨[], .nil, rfl, fun i v q e => by simp at e⟩
  | snoc a j x t u n hr ih =>
    obtain ⟨prs, h1, h2, h3⟩ := ih
    refine ⟨prs ++ [(.int j t, .str (strOf x) u)], .snoc j x t u h1, by rw [List.length_append, List.length_append, h2]; rfl, ?_⟩
    intro i v q e1 e2
    rcases snoc_at e1 with ⟨hlt, e1⟩ | ⟨rfl, rfl⟩
    · rw [List.getElem?_append_left (h2 ▸ hlt)] at e2
      obtain ⟨a', n', x1, x2⟩ := h3 i v q e1 e2
      exact ⟨a', n', x1, List.mem_append_left _ x2⟩
    · rw [← h2, List.getElem?_concat_length] at e2
      cases e2
      exact ⟨a, n, rfl, List.mem_append_right _ (List.mem_singleton.mpr rfl)⟩
theorem PrsAre.mem {prs : List (Value × Value)} {r : List (Int × List Nat)} (h : PrsAre prs r) : ∀ v₁ v₂, (v₁, v₂) ∈ prs → ∃ b t wd u, v₁ = .int b t ∧ v₂ = .str (strOf wd) u ∧ (b, wd) ∈ r := by
  induction h with
  | nil => intro v₁ v₂ h; cases h
  | snoc i x t u _ ih =>
    intro v₁ v₂ h
    rcases List.mem_append.mp h with h | h
    · obtain ⟨b, t, wd, u, e1, e2, e3⟩ := ih v₁ v₂ h
      exact ⟨b, t, wd, u, e1, e2, List.mem_append_left _ e3⟩
    · have e := List.mem_singleton.mp h
      cases e
      exact ⟨i, t, x, u, rfl, rfl, List.mem_append_right _ (List.mem_singleton.mpr rfl)⟩
noncomputable def tBig (v : Value) (_ : Value) : Bool := match v with | .int b _ => decide (b > 4) | _ => false
noncomputable def tFour (v : Value) (_ : Value) : Bool := match v with | .int b _ => decide (b = 4) | _ => false
theorem IntsAre_snoc {i : Int} {t : Tok} : ∀ {vs : List Value} {ns : List Int}, IntsAre vs ns → IntsAre (vs ++ [.int i t]) (ns ++ [i])
  | _, _, .nil => .cons i t .nil
  | _, _, .cons j u r => .cons j u (IntsAre_snoc r)
theorem StrsAre_snoc {y : Str} {t : Tok} : ∀ {vs : List Value} {ys : List Str}, StrsAre vs ys → StrsAre (vs ++ [.str y t]) (ys ++ [y])
  | _, _, .nil => .cons y t .nil
  | _, _, .cons j u r => .cons j u (StrsAre_snoc r)
theorem PrsAre.big {prs : List (Value × Value)} {r : List (Int × List Nat)} (h : PrsAre prs r) : IntsAre ((prs.filter fun p => tBig p.1 p.2).map fun p => (fun a _ => a : Value → Value → Value) p.1 p.2) (big5 r) := by
  induction h with
  | nil => exact .nil
  | snoc i x t u _ ih =>
    rw [List.filter_append, List.map_append, big5, List.filter_append, List.map_append]
    by_cases hi : i > 4
    · rw [List.filter_cons, if_pos (show tBig (.int i t) _ = true from decide_eq_true hi), List.filter_cons, if_pos (by simpa using hi)]
      exact IntsAre_snoc ih
    · rw [List.filter_cons, if_neg (show ¬ tBig (.int i t) _ = true from by simpa [tBig] using hi), List.filter_cons, if_neg (by simpa using hi)]
      simp only [List.filter_nil, List.map_nil, List.append_nil]; exact ih
theorem PrsAre.four {prs : List (Value × Value)} {r : List (Int × List Nat)} (h : PrsAre prs r) : StrsAre ((prs.filter fun p => tFour p.1 p.2).map fun p => (fun _ b => b : Value → Value → Value) p.1 p.2) ((r.filter fun p => decide (p.1 = 4)).map fun p => strOf p.2) := by
  induction h with
  | nil => exact .nil
  | snoc i x t u _ ih =>
    rw [List.filter_append, List.map_append, List.filter_append, List.map_append]
    by_cases hi : i = 4
    · rw [List.filter_cons, if_pos (show tFour (.int i t) _ = true from decide_eq_true hi), List.filter_cons, if_pos (by simpa using hi)]
      exact StrsAre_snoc ih
    · rw [List.filter_cons, if_neg (show ¬ tFour (.int i t) _ = true from by simpa [tFour] using hi), List.filter_cons, if_neg (by simpa using hi)]
      simp only [List.filter_nil, List.map_nil, List.append_nil]; exact ih
theorem join4 (r : List (Int × List Nat)) : Txt.join (Str.ofString "") ((r.filter fun p => decide (p.1 = 4)).map fun p => strOf p.2) = strOf (rows4 r) := by
  have h0 : Str.ofString "" = ⟨#[]⟩ := by decide +kernel
  apply str_ext
  rw [h0, show Txt.join ⟨#[]⟩ _ = Str.join ⟨#[]⟩ _ from StrLaws.glued_eq_join _ _, join_flat, List.flatMap_map]
  rfl
theorem split_part_len (c : Nat) : ∀ (l : List Nat), ∀ p ∈ splitL c l, p.length ≤ l.length
  | [], p, h => by simp [splitL] at h; simp [h]
  | a :: r, p, h => by
    have ih := split_part_len c r
    rw [splitL] at h
    rw [List.length_cons]
    split at h
    · rcases List.mem_cons.mp h with rfl | h
      · simp
      · exact Nat.le_succ_of_le (ih p h)
    · split at h
      · rename_i x t e
        rcases List.mem_cons.mp h with rfl | h
        · have := ih x (by rw [e]; exact List.mem_cons_self ..)
          exact Nat.succ_le_succ this
        · exact Nat.le_succ_of_le (ih p (by rw [e]; exact List.mem_cons_of_mem _ h))
      · rw [List.mem_singleton.mp h]; simp
theorem port_len {ins y : List Nat} (h : port229 ins = some y) : y.length ≤ ins.length := by
  cases ins with
  | nil => cases h
  | cons c r =>
    rw [port229] at h
    split at h
    · exact split_part_len c _ y (List.mem_of_getElem? h)
    · cases h
theorem sum4 : ∀ f : List (Int × List Nat), (((f.map fun p => strOf p.2)).map (·.length)).sum = (f.flatMap (·.2)).length
  | [] => rfl
  | p :: f => by
    have ih := sum4 f
    simp only [List.map_cons, List.sum_cons, List.flatMap_cons, List.length_append, strOf_len] at ih ⊢
    rw [ih]
-- part cduename
/-- what the page tells of a reply's name -/
inductive DueName (P a b : Addr) (text : Str) : Value → List (Addr × Obj) → Prop
  | code (tl' : List (Addr × Obj)) (ht : Tabs P a b tl') (h3 : text.cps.toList.take 3 ≠ [50, 53, 55]) (d : Addr) (t1 t2 : Tok) : DueName P a b text (.ref d) ((d, lstO [.str (Str.ofString "code") t1, .str text t2]) :: tl')
  | name (tl' : List (Addr × Obj)) (ht : Tabs P a b tl') (h3 : text.cps.toList.take 3 = [50, 53, 55]) (t : Tok) : DueName P a b text (.str (v257 text) t) tl'
/-- the rows that tell a name -/
structure DnOf (text : Str) (rows : List (Int × List Nat)) : Prop where
  hv : v257 text = strOf (dueN rows 1)
  hfl : (dueN rows 1).length ≤ 2000
  hrl : rows.length ≤ 6000
  hrb : ∀ q ∈ rows, 0 ≤ q.1 ∧ q.1 ≤ 3000
theorem dn_page {text : Str} (hlen : text.length ≤ 2000) (h5 : (Txt.slice text (some 3) (some 5) == Str.ofString " \"") = true) : DnOf text (rowsOf (Str.ofString "\"") (Txt.slice text (some 5) none).cps.toList) := by
  rw [str_beq (x := Txt.slice text (some 3) (some 5)) (slice_ss text 3 5) (m := [32, 34]) rfl] at h5
  have hsl : (Txt.slice text (some 5) none).cps.toList = text.cps.toList.drop 5 := slice_sn text 5
  have hq : Str.ofString "\"" = ⟨#[34]⟩ := by decide +kernel
  have hn : text.cps.toList.length ≤ 2000 := len_toList text ▸ hlen
  have hd : (text.cps.toList.drop 5).length ≤ 2000 := by rw [List.length_drop]; exact Nat.le_trans (Nat.sub_le _ _) hn
  rw [hsl, hq]
  refine ⟨?_, ?_, ?_, fun q hq => ?_⟩
  · rw [v257, if_pos (by simpa using h5), due_name]
  · rw [due_name]; exact Nat.le_trans (name_len _) hd
  · have := rows_len ⟨#[34]⟩ (text.cps.toList.drop 5); omega
  · have := rows_bound 34 _ q hq; omega
theorem dn_none {text : Str} (h5 : (Txt.slice text (some 3) (some 5) == Str.ofString " \"") = false) : DnOf text [] := by
  rw [str_beq (x := Txt.slice text (some 3) (some 5)) (slice_ss text 3 5) (m := [32, 34]) rfl] at h5
  exact ⟨by rw [v257, if_neg (by simpa using h5)]; rfl, by decide, by decide, fun _ h => nomatch h⟩
theorem dn_end {rows : List (Int × List Nat)} {i : Nat} {row : Int} {dn : Str} {full : List Nat} (hr : rows[i]? = none) (h : dn.cps.toList ++ dueN (rows.drop i) row = full) : strOf full = dn := by
  rw [← h, show rows.drop i = [] from List.drop_eq_nil_iff.mpr (List.getElem?_eq_none_iff.mp hr), dueN, List.append_nil, strOf_toList]
theorem dn_item {rows : List (Int × List Nat)} {i : Nat} {row b : Int} {wd : List Nat} {dn : Str} {full : List Nat} (hr : rows[i]? = some (b, wd)) (h : dn.cps.toList ++ dueN (rows.drop i) row = full) (hf : full.length ≤ 2000) :
    ((b - row) / 2).toNat ≤ 2000 ∧ dn.length ≤ 2000 ∧ ∀ qs : Str, qs.cps.toList = List.replicate ((b - row) / 2).toNat 34 → qs.length ≤ 2000 ∧ (dn ++ qs : Str).length ≤ 2000 ∧ ((b - row) % 2 = 1 → strOf full = dn ++ qs) ∧
      ((b - row) % 2 ≠ 1 → (strOf wd).length ≤ 2000 ∧ (dn ++ qs ++ strOf wd : Str).cps.toList ++ dueN (rows.drop (i + 1)) b = full) := by
  have hdr : rows.drop i = (b, wd) :: rows.drop (i + 1) := List.drop_eq_getElem?_toList_append.trans (by rw [hr]; rfl)
  rw [hdr, dueN] at h
  have hl := congrArg List.length h
  simp only [List.length_append, List.length_replicate] at hl
  refine ⟨by omega, by rw [len_toList]; omega, fun qs hq => ⟨by rw [len_toList, hq, List.length_replicate]; omega, by rw [Str.length_append, len_toList, len_toList qs, hq, List.length_replicate]; omega, fun ho => ?_, fun ho => ?_⟩⟩
  · rw [if_pos ho, List.append_nil, ← hq, ← Array.toList_append, ← Str.cps_append] at h
    rw [← h, strOf_toList]
  · rw [if_neg ho] at h hl
    rw [List.length_append] at hl
    exact ⟨by rw [strOf_len]; omega, by rw [Str.cps_append, Str.cps_append, Array.toList_append, Array.toList_append, ← h, hq, show (strOf wd).cps.toList = wd from rfl, List.append_assoc, List.append_assoc]⟩
/-- the list that the loop goes through -/
inductive DnMid (P a b : Addr) (g : Heap) (L : Addr) (text : Str) (s : Shared) : Value → Shared → Prop
  | mk (R : Addr) (m : Str → Option Value) (rest : List (Addr × Obj)) (refs : List Value) (ps : List (Addr × Obj)) (rows : List (Int × List Nat)) (n : Nat) (tl' : List (Addr × Obj)) (h : Heap) (tk : Nat) (t tr : Tok) (ht : Tabs P a b tl') (hsub : ∀ q ∈ tl', q ∈ rest) (hps : ∀ q ∈ ps, q ∈ rest)
    (F : Fr g L h m) (N : News g L h ((R, W.listOf refs.toArray n) :: rest)) (hra : RowsAre refs ps rows) (hd : DnOf text rows) (hmn : m (Str.ofString "name") = some (.str ⟨#[]⟩ t)) (hmr : m (Str.ofString "row") = some (.int 1 tr)) : DnMid P a b g L text s (.ref R) { s with heap := h, toks := tk }
inductive dueInv (I R : Addr) (refs : List Value) (n : Nat) (rest : List (Addr × Obj)) (rows : List (Int × List Nat)) (full : List Nat) (mm : Str → Option Value) : Nat → List (Addr × Obj) → Prop
  | mk (i : Nat) (dn : Str) (row : Int) (t tr : Tok) (oI : Obj) (hi : i ≤ refs.length) (h0 : 0 ≤ row) (h1 : row ≤ 3000) (hI : IsLI R i oI) (hmn : mm (Str.ofString "name") = some (.str dn t)) (hmr : mm (Str.ofString "row") = some (.int row tr)) (hdue : dn.cps.toList ++ dueN (rows.drop i) row = full) :
    dueInv I R refs n rest rows full mm (refs.length - i) ((I, oI) :: (R, W.listOf refs.toArray n) :: rest)
theorem dn_turn {i n : Nat} (h : i < n) : n - (i + 1) < n - i := Nat.sub_lt_sub_left h (Nat.lt_succ_self i)
set_option maxRecDepth 100000 in
set_option maxHeartbeats 8000000 in
theorem duename_k (w : World) {p : Program} {loose : List Str} {mean : ExcName → Option Value} {mg mb : Str → Option Value} (tl : List (Addr × Obj)) (htl : Tabs 123 96 18 tl) (text : Str) (t1 : Tok) (hlen : text.length ≤ 2000) :
    Ctr PySem.Challenge.rw_pm0015_01.row.prog w (Mine.hd.heap_39 w.params) p loose mean mg mb 14 250 147 [.str text t1] tl (DueName 123 96 18 text) noErr noErrN := by
  k_fill
  (k_dflt (refine' ctr_enter ?k6 ?k7 ?k9 ?kB ?_ ?c2 ?c3 ?c4 ?c5; (case k6 => k_is); (case k7 => k_is); (case k9 => exact fun _ => BindsTo.of_eq rfl); (case c5 => decide); (case kB => exact locs rfl); (case c2 => exact rfl); (case c3 => exact rfl); (case c4 => exact rfl); k_whole))
  intro dp un gd fr base g L h₁ s hd hu hg B F N X T hlt D
  (try dsimp only)
  (((try dsimp only); (with_reducible show wpAny _ _ _ _ _ _); k_fold))
  k_steps
  · (with_reducible rename Fr _ _ _ _ => F9)
    (with_reducible rename News _ _ _ _ => N9)
    rename (Txt.slice text none (some 3) != _) = _ => h3
    rw [str_bne (x := Txt.slice text none (some 3)) (slice_ns text 3) (m := [50, 53, 55]) rfl] at h3
    (try unfold Hold)
    exact ⟨L, _, _, rfl, F9, N9, .code tl htl (by simpa using h3) ..⟩
  · rename (Txt.slice text none (some 3) != _) = _ => h3
    rw [str_bne (x := Txt.slice text none (some 3)) (slice_ns text 3) (m := [50, 53, 55]) rfl] at h3
    (try unfold Hold)
    refine for_inv2 (h₀ := g) ?_
    refine wpAny_mono (Q := fun v s' => DnMid 123 96 18 g L text s v s') (E := noE) ?_ (fun v s' hm => ?_) (fun _ _ x => x.elim)
    · (((try dsimp only); (with_reducible show wpAny _ _ _ _ _ _); k_fold))
      k_steps
      · rename (Txt.slice text (some 3) (some 5) == _) = true => h5
        (with_reducible rename Fr _ _ _ _ => F9)
        (with_reducible rename News _ _ _ _ => N9)
        unfold Hold
        refine ctr_use (rest := []) (rows_k w tl htl (Txt.slice text (some 5) none) (Str.ofString "\"") _ _ ?hl) B F9 X T D (by rw [List.append_nil]; exact N9) rfl rfl (lt_up 13 hd rfl) (lt_up 203 hu rfl) (fun _ h => nomatch h) ?_
        (case hl => omega)
        rintro v own' h' tk' ⟨R, c, oc, vs, tc, refs, ps, n, hPc, e1, e2, hra⟩ F1 N1 _
        rw [List.append_nil] at N1
        dsimp only
        (repeat k_unfold)
        exact .mk R _ ((123, tabO 96 18 c) :: (c, oc) :: ps) refs ps _ n [(123, tabO 96 18 c), (c, oc)] h' _ _ _ (.inr ⟨c, oc, vs, tc, hPc, rfl, e1, e2⟩) (fun q hq => List.mem_append_left ps hq) (fun q hq => List.mem_cons_of_mem _ (List.mem_cons_of_mem _ hq)) F1 (news_pickT N1 [2, 0, 1] 3 rfl) hra (dn_page hlen h5) rfl rfl
      · rename (Txt.slice text (some 3) (some 5) == _) = false => h5
        (with_reducible rename Fr _ _ _ _ => F1)
        (with_reducible rename News _ _ _ _ => N1)
        (try unfold Hold)
        (repeat k_unfold)
        exact .mk _ _ tl [] [] [] 0 tl _ _ _ _ htl (fun _ h => h) (fun _ h => nomatch h) F1 N1 .nil (dn_none h5) rfl rfl
    · (with_reducible rename Fr _ _ _ _ => F9)
      (with_reducible rename News _ _ _ _ => N9)
      clear F9 N9
      have h3' : text.cps.toList.take 3 = [50, 53, 55] := by simpa using h3
      clear h3
      obtain ⟨R, m, rest, refs, ps, rows, n, tl', h', tk', t, tr, htl', hsub, hps, F1, N1, hra, hdn, hmn, hmr⟩ := hm
      have hrl := hra.len ▸ hdn.hrl
      refine iter_listN F1 N1 (List.mem_cons_self ..) ?_
      intro I oI h2 hI F3 N3 l3
      refine .mk (fun k mm news => dueInv I R refs n rest rows (dueN rows 1) mm k news) refs.length _ _ (.mk 0 ⟨#[]⟩ 1 t tr oI (Nat.zero_le _) (by decide) (by decide) hI hmn hmr rfl) F3 N3 ?_
      clear F1 N1 F3 N3 hI oI hmn hmr
      rintro k m₁ news₁ h4 tk4 ⟨i, dn, row, t, tr, oI, hi, hr0, hr1, hI, hmn, hmr, hdue⟩ F N
      have hne : ∀ q ∈ ((R, W.listOf refs.toArray n) :: rest), q.1 ≠ I := fun q hq => Nat.ne_of_lt (l3 q hq)
      cases hr : rows[i]? with
      | none =>
        have hil : refs.toArray[i]? = none := by
          rw [List.getElem?_toArray]; exact List.getElem?_eq_none_iff.mpr (hra.len ▸ List.getElem?_eq_none_iff.mp hr)
        refine next_list (env := envOf _ _ L _ _) rfl F N hI ⟨_, (N (R, W.listOf refs.toArray n) (List.mem_cons_of_mem _ (List.mem_cons_self ..))).1, rfl, n, rfl⟩ hne (fun v h' oI' hv' => by rw [hil] at hv'; cases hv') ?_
        intro h' _ F' N'
        dsimp only
        k_steps
        (try unfold Hold)
        show Lv s g _ _ _
        exact dn_end hr hdue ▸ ⟨_, _, tl', rfl, F', fun q hq => N' q (List.mem_cons_of_mem _ (hsub q hq)), hdn.hv ▸ .name tl' htl' h3' _⟩
      | some bw =>
        obtain ⟨b, wd⟩ := bw
        obtain ⟨a, tb, tw, na, hra1, hra2⟩ := hra.at i b wd hr
        refine next_pair (env := envOf _ _ L _ _) (q := (.int b tb, .str (strOf wd) tw)) rfl F N hI (List.mem_cons_self ..) hne (by rw [List.getElem?_toArray]; exact hra1) (List.mem_cons_of_mem _ (hps _ hra2)) rfl rfl (fun s' h => h) ?_
        intro h5 oI' hI' F5 N5
        clear F N
        have hil := (List.getElem?_eq_some_iff.mp hra1).1
        dsimp only [assignEach, List.map_cons, List.map_nil]
        refine assignInOrder_cons ?_
        refine wpAny_assign_Name ?_
        k_fold
        k_steps
        have hb := hdn.hrb _ (List.mem_of_getElem? hr)
        obtain ⟨hq2, hdl, hit⟩ := dn_item hr hdue hdn.hfl
        rw [fdiv_two]
        refine SB.mul (mulok_one (by decide +kernel) (by omega) (by omega)) ?_
        intro t7 k7
        have hqs : (Txt.mul (Str.ofString "\"") ((b - row) / 2)).cps.toList = List.replicate ((b - row) / 2).toNat 34 := by rw [show Str.ofString "\"" = ⟨#[34]⟩ from by decide +kernel]; exact mul_one_list 34 _
        generalize Txt.mul (Str.ofString "\"") ((b - row) / 2) = qs at hqs ⊢
        obtain ⟨hqsl, hdql, hodd, heven⟩ := hit qs hqs
        k_steps
        · rename Int.fmod _ 2 = 1 => hod
          rw [fmod_two] at hod
          (with_reducible rename Fr _ _ _ _ => F7)
          (with_reducible rename News _ _ _ _ => N7)
          dsimp only [TurnEnd]
          k_steps
          (try unfold Hold)
          show Lv s g _ _ _
          exact hodd hod ▸ ⟨_, _, tl', rfl, F7, fun q hq => N7 q (List.mem_cons_of_mem _ (List.mem_cons_of_mem _ (hsub q hq))), hdn.hv ▸ .name tl' htl' h3' _⟩
        · rename Int.fmod _ 2 ≠ 1 => hod
          rw [fmod_two] at hod
          obtain ⟨hwl, hdue'⟩ := heven hod
          k_steps
          (try unfold Hold)
          (with_reducible rename Fr _ _ _ _ => F7)
          (with_reducible rename News _ _ _ _ => N7)
          dsimp only [TurnEnd]
          exact ⟨refs.length - (i + 1), _, _, _, _, dn_turn hil, rfl, F7, N7, .mk (i + 1) (dn ++ qs ++ strOf wd) b _ _ oI' hil hb.1 hb.2 hI' (by rfl) (by rfl) hdue'⟩
-- part cdueport
section
local macro_rules | `(tactic| walk_at $s:str) => if ["eval ListComp", "call builtin:str.join", "SrcP", "compareOp NotEq ref ref"].contains s.getString then `(tactic| refine Hold.mk ?_) else Lean.Macro.throwUnsupported
/-- what the page tells of a reply's port -/
inductive DuePort (P a b : Addr) (text host : Str) : Value → List (Addr × Obj) → Prop
  | mk (tl' : List (Addr × Obj)) (d : Addr) (o : Obj) (ht : Tabs P a b tl') (h : PortO text host o) : DuePort P a b text host (.ref d) ((d, o) :: tl')
theorem mulL {n : Nat} (h : n ≤ 2000) : n ≤ sizeLine := by rw [PySem.sizeLine_eq]; omega
set_option maxRecDepth 100000 in
set_option maxHeartbeats 8000000 in
theorem dueport_k (w : World) {p : Program} {loose : List Str} {mean : ExcName → Option Value} {mg mb : Str → Option Value} (tl : List (Addr × Obj)) (htl : Tabs 123 96 18 tl) (text host : Str) (t1 t2 : Tok) (hlen : text.length ≤ 600) (hsg : ∀ c ∈ text.cps.toList, c < 16 ^ 8) :
    CtrT PySem.Challenge.rw_pm0015_01.row.prog w (Mine.hd.heap_39 w.params) p loose mean mg mb 14 250 152 [.str text t1, .str host t2] tl (DuePort 123 96 18 text host) := by
  k_fill
  (k_dflt (refine' ctrT_enter ?k6 ?k7 ?k9 ?kB ?_ ?c2 ?c3 ?c4 ?c5; (case k6 => k_is); (case k7 => k_is); (case k9 => exact fun _ => BindsTo.of_eq rfl); (case c5 => decide); (case kB => exact locs rfl); (case c2 => exact rfl); (case c3 => exact rfl); (case c4 => exact rfl); k_whole))
  intro dp un gd fr base g L h₁ s hd hu hg B F N XB TB X T hlt D
  (try dsimp only)
  refine wpP_execs_consA ?_
  k_fold
  k_steps
  all_goals (rename (Txt.slice text none (some 3) != _) = _ => h3; rw [str_bne (x := Txt.slice text none (some 3)) (slice_ns text 3) (m := [50, 50, 57]) rfl] at h3)
  all_goals ((with_reducible rename Fr _ _ _ _ => F9); (with_reducible rename News _ _ _ _ => N9); (try unfold Hold))
  · exact Lv.T ⟨L, _, _, rfl, F9, N9, .mk tl _ _ htl (.code (by simpa using h3) _ _)⟩
  have h3' : text.cps.toList.take 3 = [50, 50, 57] := by simpa using h3
  refine wpP_execs_consA ?_
  k_fold
  k_steps
  unfold Hold
  refine ctr_use (own := []) (rest := tl) (inside_k w text t1 (by omega)) B F9 X T D N9 rfl rfl (lt_up 3 hd rfl) (lt_up 23 hu rfl) (fun _ _ h => nomatch h) ?_
  rintro v own' h5 tk5 ⟨ti⟩ F10 N10 _
  clear F9 N9
  have hil : (strOf (insideL text.cps.toList)).length ≤ 600 := by
    have h1 := insideL_len text.cps.toList
    have h2 := len_toList text
    rw [strOf_len]; omega
  generalize hins : strOf (insideL text.cps.toList) = ins at hil ⊢
  dsimp only [List.nil_append] at N10 ⊢
  (((try dsimp only); (with_reducible show wpAny _ _ _ _ _ _); k_fold))
  k_steps
  unfold Hold
  refine wpP_execs_consA ?_
  k_fold
  k_steps
  unfold Hold
  (with_reducible rename Fr _ _ _ _ => F11)
  (with_reducible rename News _ _ _ _ => N11)
  refine ctr_use (own := tl) (rest := []) (rows_k w tl htl ins (Txt.slice ins none (some 1)) _ _ (by omega)) B F11 X T D (by rw [List.append_nil]; exact N11) rfl rfl (lt_up 13 hd rfl) (lt_up 203 hu rfl) (fun _ h => nomatch h) ?_
  rintro v own' h7 tk7 ⟨R, c, oc, vs, tc, refs, ps, n, hPc, e1, e2, hra⟩ F1 N1 _
  clear F11 N11
  rw [List.append_nil] at N1
  obtain ⟨prs, hpa, hpl, hpp⟩ := hra.prs
  have hmk : Txt.slice ins none (some 1) = ⟨((insideL text.cps.toList).take 1).toArray⟩ := by
    apply str_ext
    rw [show (Txt.slice ins none (some 1)).cps.toList = ins.cps.toList.take 1 from slice_ns ins 1, ← hins]; rfl
  have hic : ins.cps.toList = insideL text.cps.toList := by rw [← hins]; rfl
  have hdp := due_port (insideL text.cps.toList)
  rw [hmk, hic] at hra hpa
  have hrl : refs.length ≤ 2000 := by
    have h1 := rows_len ⟨((insideL text.cps.toList).take 1).toArray⟩ (insideL text.cps.toList)
    have h2 := insideL_len text.cps.toList
    have h3 := len_toList text
    rw [hra.len]; omega
  generalize rowsOf ⟨((insideL text.cps.toList).take 1).toArray⟩ (insideL text.cps.toList) = rows at hra hpa hdp
  dsimp only
  (((try dsimp only); (with_reducible show wpAny _ _ _ _ _ _); k_fold))
  k_steps
  unfold Hold
  refine wpP_execs_consA ?_
  k_fold
  k_steps
  unfold Hold
  (with_reducible rename Fr _ _ _ _ => F2)
  (with_reducible rename News _ _ _ _ => N2)
  refine comp_pair (h₀ := g) (L := L) F2 (by with_unfolding_all rfl) (by decide) (by rfl) (by decide) (by rfl) (by rfl) (by decide) ?_
  (((try dsimp only); (with_reducible show wpAny _ _ _ _ _ _); k_fold))
  k_steps
  try any_goals (first | exact Str.empty | exact Value.none | exact (0 : Nat))
  unfold Hold
  refine ⟨R, refs.toArray, n, _, prs, tBig, fun a _ => a, _, rfl, F2, N2, List.mem_cons_of_mem _ (List.mem_cons_of_mem _ (List.mem_cons_self ..)), ?_, by rw [List.size_toArray]; exact hpl, ?_, ?_, ?_⟩
  · rw [List.size_toArray]; exact mulL hrl
  · intro i v q h1 h2
    obtain ⟨a, n', h3, h4⟩ := hpp i v q (by simpa using h1) h2
    exact ⟨a, n', h3, List.mem_cons_of_mem _ (List.mem_cons_of_mem _ (List.mem_cons_of_mem _ h4))⟩
  · intro s₂ E' v₁ v₂ C oC m₂ h8 tk8 hm hC hx hx₂ F3 N3
    obtain ⟨b, tb, wd, tw, rfl, rfl, -⟩ := hpa.mem v₁ v₂ hm
    clear F2 N2
    (with_reducible show wpAny _ _ _ _ _ _)
    k_steps
  · intro D8 h8 tk8 F3 N3 l3
    clear F2 N2
    (with_reducible show wpAny _ _ _ _ _ _)
    k_fold
    k_steps
    (with_reducible rename Fr _ _ _ _ => F4)
    (with_reducible rename News _ _ _ _ => N4)
    show wpAny _ _ (compareOp _ _ _) _ _ _
    refine ne_intsK (us := [.int 5 _]) (ms := [5]) ⟨_, (N4 (D8, LCg.lst _) (List.mem_cons_of_mem _ (List.mem_cons_self ..))).1, rfl, _, rfl⟩ hpa.big ⟨_, (N4 _ (List.mem_cons_self ..)).1, rfl, _, rfl⟩ (.cons 5 _ .nil) (lt_up 67 hu rfl) ?_
    have N5 := news_pickT (M := (123, tabO 96 18 c) :: (c, oc) :: (R, W.listOf refs.toArray n) :: ps) N4 [] 2 rfl
    clear N4
    rename _ ∧ _ => l1
    clear l1
    (with_reducible show wpAny _ _ _ _ _ _)
    k_fold
    k_steps
    all_goals (try unfold Hold)
    · rename big5 rows = [5] => h5
      obtain ⟨y, hy⟩ : ∃ y, port229 (insideL text.cps.toList) = some y := by
        cases hq : port229 (insideL text.cps.toList) with
        | none => exact absurd h5 (hdp.1 hq)
        | some y => exact ⟨y, rfl⟩
      have hr4 := (hdp.2 y hy).2
      have hyl : y.length ≤ 600 := by
        have h1 := port_len hy
        have h2 := insideL_len text.cps.toList
        have h4 := len_toList text
        omega
      refine wpP_execs_cons (wpP_Try (wpP_execs_cons (wpP_Return (wpP_Tuple (wpP_spliced_more (wpP_any ?_))))))
      k_fold
      k_steps
      (try unfold Hold)
      refine wpP_spliced_more (wpP_Call ?_)
      k_steps
      (try unfold Hold)
      refine wpP_callWith_type1 ?_
      k_steps
      (try unfold Hold)
      (with_reducible rename Fr _ _ _ _ => F6)
      (with_reducible rename News _ _ _ _ => N6)
      refine comp_pair (h₀ := g) (L := L) F6 (by with_unfolding_all rfl) (by decide) (by rfl) (by decide) (by rfl) (by rfl) (by decide) ?_
      (((try dsimp only); (with_reducible show wpAny _ _ _ _ _ _); k_fold))
      k_steps
      try any_goals (first | exact Str.empty | exact Value.none | exact (0 : Nat))
      unfold Hold
      refine ⟨R, refs.toArray, n, _, prs, tFour, fun _ b => b, _, rfl, F6, N6, List.mem_cons_of_mem _ (List.mem_cons_of_mem _ (List.mem_cons_self ..)), ?_, by rw [List.size_toArray]; exact hpl, ?_, ?_, ?_⟩
      · rw [List.size_toArray]; exact mulL hrl
      · intro i v q h1 h2
        obtain ⟨a, n', h3, h4⟩ := hpp i v q (by simpa using h1) h2
        exact ⟨a, n', h3, List.mem_cons_of_mem _ (List.mem_cons_of_mem _ (List.mem_cons_of_mem _ h4))⟩
      · intro s₂ E' v₁ v₂ C oC m₂ h8 tk8 hm hC hx hx₂ F3 N3
        obtain ⟨b, tb, wd, tw, rfl, rfl, -⟩ := hpa.mem v₁ v₂ hm
        clear F6 N6
        (with_reducible show wpAny _ _ _ _ _ _)
        k_steps
      intro D9 h9 tk9 F7 N7 l7
      clear F6 N6
      (with_reducible show wpAny _ _ _ _ _ _)
      k_fold
      k_steps
      (try unfold Hold)
      dsimp only [List.cons_append, List.nil_append]
      (with_reducible rename Fr _ _ _ _ => F7)
      (with_reducible rename News _ _ _ _ => N7)
      refine join_listC (ys := (rows.filter fun p => decide (p.1 = 4)).map fun p => strOf p.2) ⟨_, (N7 (D9, LCg.lst _) (List.mem_cons_self ..)).1, rfl, _, rfl⟩ hpa.four (by decide) ?_ ?_
      · rw [sum4, show (List.filter (fun p => decide (p.1 = 4)) rows).flatMap (·.2) = y from hr4, List.length_map]
        have h1 := List.length_filter_le (fun p : Int × List Nat => decide (p.1 = 4)) rows
        have h2 := hra.len
        omega
      intro t10 k10
      rw [join4, hr4]
      have h640 : (strOf y).length ≤ 640 := by rw [strOf_len]; omega
      have hrp : (reprText (strOf y)).length ≤ sizeLine := by
        refine Nat.le_trans (StrLaws.reprText_len (strOf y) fun a ha => hsg a (insideL_mem _ a (port_mem hy a (by simpa [strOf] using ha)))) ?_
        have : sizeLine = 16777216 := by decide +kernel
        omega
      have N8 := news_pick N7 [1, 2] (M := [(123, tabO 96 18 c), (c, oc)]) rfl
      clear N7 l7
      cases hq : PySem.intText? (strOf y) with
      | none =>
        refine int_bad rfl h640 hq hrp ?_
        intro h11 tk11 e hx
        dsimp only
        refine own_look hx F7 N8 B ?_
        intro h12 FG R12 U12
        clear F7 N8
        (try dsimp only)
        (with_reducible show wpAny _ _ _ _ _ _)
        k_fold
        k_steps
        (try unfold Hold)
        (with_reducible rename Fr _ _ _ _ => F8)
        (with_reducible rename News _ _ _ _ => N9)
        (with_reducible rename KtsTurn _ _ _ => T8)
        exact ⟨_, L, _, _, rfl, T8, F8, N9, .mk [(123, tabO 96 18 c), (c, oc)] _ _ (.inr ⟨c, oc, vs, tc, hPc, rfl, e1, e2⟩) (.number h3' y hy hq _)⟩
      | some nn =>
        refine wpP_any (KIN.call_text hq h640 ?_)
        (try dsimp only)
        refine wpP_spliced_nil ?_
        refine ⟨by rw [PySem.sizeLine_eq]; simp, ?_⟩
        exact Lv.T ⟨L, _, _, rfl, F7.push _, N8.push F7 _, .mk [(123, tabO 96 18 c), (c, oc)] _ _ (.inr ⟨c, oc, vs, tc, hPc, rfl, e1, e2⟩) (.pair h3' y nn hy hq _ _)⟩
    · rename ¬ big5 rows = [5] => h5
      (with_reducible rename Fr _ _ _ _ => F6)
      (with_reducible rename News _ _ _ _ => N6)
      have hnone : port229 (insideL text.cps.toList) = none := by
        cases hq : port229 (insideL text.cps.toList) with
        | none => rfl
        | some y => exact absurd (hdp.2 y hq).1 h5
      show LvT s (fsOf fr) g _ _ _
      exact Lv.T ⟨L, _, _, rfl, F6, news_pick N6 [0, 1, 2] (M := [_, (123, tabO 96 18 c), (c, oc)]) rfl, .mk [(123, tabO 96 18 c), (c, oc)] _ _ (.inr ⟨c, oc, vs, tc, hPc, rfl, e1, e2⟩) (.form h3' hnone _ _)⟩
end
-- part csign
/-- a sign of the text -/
inductive SignP : Value → List (Addr × Obj) → Prop
  | mk (y : Str) (u : Tok) (h : Good 3 y) : SignP (.str y u) []
theorem sign_chr (x : Int) : Good 3 ⟨#[((x.fdiv 12).fmod 1114112).toNat]⟩ := by
  refine good_of.mpr ⟨by show 1 ≤ 3; decide, fun c hc => ?_⟩
  obtain rfl : c = _ := by simpa using hc
  rw [Int.fmod_eq_emod_of_nonneg _ (by decide)]
  have h1 := Int.emod_lt_of_pos (x.fdiv 12) (show (0 : Int) < 1114112 by decide)
  have h2 := Int.emod_nonneg (x.fdiv 12) (show (1114112 : Int) ≠ 0 by decide)
  omega
theorem sign_tab (k : Nat) : Good 3 ([Str.ofString "\"", Str.ofString "\"\"", Str.ofString "|", Str.ofString "607", Str.ofString "_", Str.ofString "-", Str.ofString " ", Str.ofString "(", Str.ofString ")", Str.ofString "\n", Str.ofString "\\"].getD k Str.empty) := by
  have all : ∀ y ∈ [Str.ofString "\"", Str.ofString "\"\"", Str.ofString "|", Str.ofString "607", Str.ofString "_", Str.ofString "-", Str.ofString " ", Str.ofString "(", Str.ofString ")", Str.ofString "\n", Str.ofString "\\"], y.length ≤ 3 ∧ PyData.strOk y = true := by decide +kernel
  rw [List.getD_eq_getElem?_getD]
  generalize hq : [Str.ofString "\"", Str.ofString "\"\"", Str.ofString "|", Str.ofString "607", Str.ofString "_", Str.ofString "-", Str.ofString " ", Str.ofString "(", Str.ofString ")", Str.ofString "\n", Str.ofString "\\"][k]? = r
  cases r with
  | none => exact ⟨by show (0 : Nat) ≤ 3; decide, by show PyData.strOk Str.empty = true; decide +kernel⟩
  | some y => exact all y (List.mem_of_getElem? hq)
set_option maxRecDepth 100000 in
set_option maxHeartbeats 8000000 in
theorem sign_k (w : World) {p : Program} {loose : List Str} {mean : ExcName → Option Value} {mg mb : Str → Option Value} (x : Int) (t : Tok) :
    Ctr PySem.Challenge.rw_pm0015_01.row.prog w (Mine.hd.heap_39 w.params) p loose mean mg mb 2 20 121 [.int x t] [] SignP noErr noErrN := by
  k_fill
  (k_dflt (refine' ctr_enter ?k6 ?k7 ?k9 ?kB ?_ ?c2 ?c3 ?c4 ?c5; (case k6 => k_is); (case k7 => k_is); (case k9 => exact fun _ => BindsTo.of_eq rfl); (case c5 => decide); (case kB => exact locs rfl); (case c2 => exact rfl); (case c3 => exact rfl); (case c4 => exact rfl); k_whole))
  intro dp un gd fr base g L h₁ s hd hu hg B F N X T hlt D
  (try dsimp only)
  (((try dsimp only); (with_reducible show wpAny _ _ _ _ _ _); k_fold))
  k_steps
  · (with_reducible rename Fr _ _ _ _ => F9)
    (try unfold Hold)
    exact ⟨_, _, [], rfl, F9, News.nil, .mk _ _ (sign_chr x)⟩
  · (with_reducible rename Fr _ _ _ _ => F9)
    (try unfold Hold)
    exact ⟨_, _, [], rfl, F9, News.nil, .mk _ _ (sign_tab _)⟩
-- part pldat
open PySem.W in
noncomputable def nameD (y : Str) : Dat := if y.cps.toList.take 3 = [50, 53, 55] then .str (v257 y) else .list [.str (Str.ofString "code"), .str y]
open PySem.W in
noncomputable def portD (y host : Str) : Dat := if y.cps.toList.take 3 = [50, 50, 57] then (match port229 (insideL y.cps.toList) with
  | none => .list [.str (Str.ofString "form"), .str y]
  | some p => match PySem.intText? (strOf p) with
    | none => .list [.str (Str.ofString "number")]
    | some n => .tuple [.str host, .int n]) else .list [.str (Str.ofString "code"), .str y]
/-- objects that are no tables and no code -/
noncomputable def Plain (o : Obj) : Prop := (∃ vs n, o.data = .seq vs n) ∨ (∃ v, o.data = .cell v) ∨ ∃ l i, IsLI l i o
theorem tab_apart {P a b : Addr} {tl news : List (Addr × Obj)} {g h : Heap} {L : Addr} (htl : Tabs P a b tl) (N : News g L h news) (hsub : ∀ q ∈ tl, q ∈ news) : ∀ q ∈ news, Plain q.2 → q.1 ∉ tl.map (·.1) := by
  intro q hq hp hm
  obtain ⟨r, hr, e⟩ := List.mem_map.mp hm
  have e1 := (N r (hsub r hr)).1
  rw [e, (N q hq).1] at e1
  have e2 : q.2 = r.2 := Option.some.inj e1
  have key : ∀ xs, q.2 = tabObj xs → False := fun xs e3 => by
    rcases hp with ⟨_, _, h⟩ | ⟨_, h⟩ | ⟨_, _, h⟩
    · rw [e3] at h; cases h
    · rw [e3] at h; cases h
    · have := h.1; rw [e3] at this; cases this
  rcases htl with rfl | ⟨c, oc, vs, t, -, rfl, h1, h2⟩
  · rw [List.mem_singleton.mp hr] at e2; exact key _ e2
  · rcases List.mem_cons.mp hr with rfl | hr
    · exact key _ e2
    · rw [List.mem_singleton.mp hr] at e2
      dsimp only at e2
      rw [← e2] at h1
      rcases hp with ⟨_, _, h⟩ | ⟨_, h⟩ | ⟨_, _, h⟩
      · rw [h] at h1; cases h1
      · rw [h] at h1; cases h1
      · rw [h.2] at h1
        injection h1 with h1
        rw [← h1] at h2
        simp at h2
section
open PySem.W
theorem dat2 {own : List (Addr × Obj)} {a : Addr} {x y : Str} {t u : Tok} (h : (a, lstO [.str x t, .str y u]) ∈ own) : DatIn own (.ref a) (.list [.str x, .str y]) := .list (n := 0) h (.cons (.str x t) (.cons (.str y u) .nil))
theorem name_dat {y : Str} {v : Value} {own : List (Addr × Obj)} (h : NameIs y v own) : DatIn own v (nameD y) ∧ ∀ q ∈ own, Plain q.2 := by
  cases h with
  | code h3 =>
    rw [nameD, if_neg h3]
    exact ⟨dat2 (List.mem_cons_self ..), fun q hq => by rw [List.mem_singleton.mp hq]; exact .inl ⟨_, _, rfl⟩⟩
  | name h3 =>
    rw [nameD, if_pos h3]
    exact ⟨.str _ _, fun _ h => nomatch h⟩
/-- what the two defs of the law told -/
inductive DueDat (P a b : Addr) (d : Dat) : Value → List (Addr × Obj) → Prop
  | mk (tl' ex : List (Addr × Obj)) (v : Value) (ht : Tabs P a b tl') (hd : DatIn ex v d) (hp : ∀ q ∈ ex, Plain q.2) : DueDat P a b d v (ex ++ tl')
/-- what the two other defs told -/
inductive DatP (d : Dat) : Value → List (Addr × Obj) → Prop
  | mk {v : Value} {own : List (Addr × Obj)} (h : DatIn own v d) (hp : ∀ q ∈ own, Plain q.2) : DatP d v own
theorem due_dat {P a b : Addr} {y : Str} {v : Value} {own : List (Addr × Obj)} (h : DueName P a b y v own) : DueDat P a b (nameD y) v own := by
  cases h with
  | code tl' ht h3 d =>
    refine .mk tl' [(d, _)] _ ht ?_ (fun q hq => by rw [List.mem_singleton.mp hq]; exact .inl ⟨_, _, rfl⟩)
    rw [nameD, if_neg h3]
    exact dat2 (List.mem_cons_self ..)
  | name tl' ht h3 =>
    refine .mk own [] _ ht ?_ (fun _ h => nomatch h)
    rw [nameD, if_pos h3]
    exact .str _ _
theorem port_dat0 {y host : Str} {d : Addr} {o : Obj} {own : List (Addr × Obj)} (hm : (d, o) ∈ own) (h : PortO y host o) : DatIn own (.ref d) (portD y host) ∧ Plain o := by
  cases h with
  | code h3 => rw [portD, if_neg h3]; exact ⟨dat2 hm, .inl ⟨_, _, rfl⟩⟩
  | form h3 hp => rw [portD, if_pos h3, hp]; exact ⟨dat2 hm, .inl ⟨_, _, rfl⟩⟩
  | number h3 p hp hi => rw [portD, if_pos h3, hp]; dsimp only; rw [hi]; exact ⟨.list (n := 0) hm (.cons (.str _ _) .nil), .inl ⟨_, _, rfl⟩⟩
  | pair h3 p n hp hi => rw [portD, if_pos h3, hp]; dsimp only; rw [hi]; exact ⟨.tuple (n := 0) hm (.cons (.str _ _) (.cons (.int _ _) .nil)), .inl ⟨_, _, rfl⟩⟩
theorem port_dat {y host : Str} {v : Value} {own : List (Addr × Obj)} (h : PortIs y host v own) : DatIn own v (portD y host) ∧ ∀ q ∈ own, Plain q.2 := by
  obtain ⟨a, o, h⟩ := h
  have h1 := port_dat0 (own := [(a, o)]) (List.mem_cons_self ..) h
  exact ⟨h1.1, fun q hq => by rw [List.mem_singleton.mp hq]; exact h1.2⟩
theorem dueport_dat {P a b : Addr} {y host : Str} {v : Value} {own : List (Addr × Obj)} (h : DuePort P a b y host v own) : DueDat P a b (portD y host) v own := by
  obtain ⟨tl', d, o, ht, h⟩ := h
  have h1 := port_dat0 (own := [(d, o)]) (List.mem_cons_self ..) h
  exact .mk tl' [(d, o)] _ ht h1.1 fun q hq => by rw [List.mem_singleton.mp hq]; exact h1.2
theorem name_mem257 : ∀ (l : List Nat) (c : Nat), c ∈ name257 l → c ∈ l
  | [], c, h => by cases h
  | [d], c, h => by
    rw [name257] at h; split at h
    · cases h
    · exact h
  | d :: e :: r, c, h => by
    rw [name257] at h
    split at h
    · split at h
      · rename_i h1 h2
        rcases List.mem_cons.mp h with rfl | h
        · rw [h1]; exact List.mem_cons_self ..
        · exact List.mem_cons_of_mem _ (List.mem_cons_of_mem _ (name_mem257 r c h))
      · cases h
    · rcases List.mem_cons.mp h with rfl | h
      · exact List.mem_cons_self ..
      · exact List.mem_cons_of_mem _ (name_mem257 (e :: r) c h)
theorem v257_ok {y : Str} (h : PyData.strOk y = true) : PyData.strOk (v257 y) = true := by
  have h0 := (good_of (n := y.length)).mp ⟨Nat.le_refl _, h⟩
  have : Good (v257 y).length (v257 y) := good_of.mpr ⟨by rw [← len_toList]; exact Nat.le_refl _, fun c hc => by
    unfold v257 at hc
    split at hc
    · exact h0.2 c (List.mem_of_mem_drop (name_mem257 _ c hc))
    · cases hc⟩
  exact this.2
theorem name_ok {y : Str} (h : PyData.strOk y = true) : kqdOk 8 (nameD y) = true := by
  unfold nameD
  split
  · simp only [kqdOk]; exact v257_ok h
  · simp only [kqdOk, List.all_cons, List.all_nil, Bool.and_true, h]; decide +kernel
theorem port_ok {y host : Str} (h : PyData.strOk y = true) (hh : PyData.strOk host = true) : kqdOk 8 (portD y host) = true := by
  unfold portD
  split
  · split
    · simp only [kqdOk, List.all_cons, List.all_nil, Bool.and_true, h]; decide +kernel
    · split
      · simp only [kqdOk, List.all_cons, List.all_nil, Bool.and_true]; decide +kernel
      · simp only [kqdOk, List.all_cons, List.all_nil, Bool.and_true, hh]
  · simp only [kqdOk, List.all_cons, List.all_nil, Bool.and_true, h]; decide +kernel
theorem name_datP {y : Str} {v : Value} {own : List (Addr × Obj)} (h : NameIs y v own) : DatP (nameD y) v own := ⟨(name_dat h).1, (name_dat h).2⟩
theorem port_datP {y host : Str} {v : Value} {own : List (Addr × Obj)} (h : PortIs y host v own) : DatP (portD y host) v own := ⟨(port_dat h).1, (port_dat h).2⟩
end
theorem allLt_mem {d : Addr} {l : List (Addr × Obj)} : PySem.W.AllLt d l → ∀ q ∈ l, q.1 < d := by
  induction l with
  | nil => intro _ q h; cases h
  | cons p r ih =>
    intro h q hq
    rcases List.mem_cons.mp hq with rfl | hq
    · exact h.1
    · exact ih h.2 q hq
theorem kqd_same {prog : Program} {w : World} {A : Around} {E : Value → Shared → Prop} {s : Shared} {h₀ : Heap} {L a b : Addr} {news n₁ n₂ : List (Addr × Obj)} {oa ob : Obj} {xs ys : List Value} {ka kb : Nat} {ds : List PySem.W.Dat} {Q : Value → Shared → Prop}
    (N : News h₀ L s.heap news) (ma : (a, oa) ∈ news) (ca : oa.cls = .type "list") (da : oa.data = .seq xs.toArray ka) (Da : PySem.W.DatAll n₁ xs ds) (sa : ∀ p ∈ n₁, p ∈ news)
    (mb : (b, ob) ∈ news) (cb : ob.cls = .type "list") (db : ob.data = .seq ys.toArray kb) (Db : PySem.W.DatAll n₂ ys ds) (sb : ∀ p ∈ n₂, p ∈ news)
    (ha : ∀ d ∈ ds, PySem.W.kqdOk 8 d = true) (hu : A.units + 64 < cLine) (h : Q (.bool false) s) : wpAny (model prog w) A (compareOp .NotEq (.ref a) (.ref b)) Q E s :=
  PySem.W.kqd_ne N ma ca da Da sa mb cb db Db sb ha ha hu (by simpa using h)
theorem good_cut {n : Nat} {x : Str} (l u : Option Int) (h : Good n x) : Good n (Txt.slice x l u) := by
  refine good_slice h (fun c hc => ?_) ?_
  · unfold Txt.slice at hc
    split at hc
    · exact hc
    · rw [List.toList_toArray] at hc
      obtain ⟨i, _, hi⟩ := List.mem_filterMap.mp hc
      exact Array.mem_toList_iff.mpr (Array.mem_of_getElem? hi)
  · rw [← len_toList, ← len_toList]
    unfold Txt.slice
    split
    · exact Nat.le_refl _
    · refine Nat.le_trans ?_ (sliceIndices_le l u x.length)
      show (List.toArray _).size ≤ _
      rw [List.size_toArray]
      exact List.length_filterMap_le _ _
-- part claw
section
local macro_rules | `(tactic| walk_at $s:str) => if ["call builtin:len", "eval ListComp", "exec Assign cons ListComp", "call builtin:str.join", "subscriptTail Name Slice ref ref", "LawMid", "SrcTA", "SrcT", "CompSrc", "EltEnd"].contains s.getString then `(tactic| refine Hold.mk ?_) else Lean.Macro.throwUnsupported
local macro_rules | `(tactic| walk_at "eval Name") => `(tactic| (k_here; (with_reducible show wpAny _ _ (eval (Expr.Name (Str.ofString "drawn") _) (envOfC _ _ _ _ _)) _ _ _); k_dflt (refine' nameX_C ?N ?c ?m ?d ?_ ?a ?b; (case a => rfl); (case b => rfl); (case N => k_asm); (case c => rfl); (case m => k_mem); (case d => with_reducible assumption); k_whole)))
local macro_rules | `(tactic| walk_at "eval Name") => `(tactic| (k_here; (with_reducible show wpAny _ _ (eval (Expr.Name (Str.ofString "drawn") _) (compEnvC _ _ _ _)) _ _ _); k_dflt (refine' lcf_free ?N ?c ?m ?d ?_ ?a ?b; (case a => rfl); (case b => rfl); (case N => k_asm); (case c => rfl); (case m => k_mem); (case d => with_reducible assumption); k_whole)))
noncomputable def LawPost (P a b : Addr) (v : Value) (own' : List (Addr × Obj)) : Prop := v = .bool true ∧ Tabs P a b own'
theorem Tabs.grown {P a b : Addr} {tl : List (Addr × Obj)} (h : Tabs P a b tl) : ∃ ps, (P, tabObj ps) ∈ tl := by
  rcases h with rfl | ⟨c, oc, vs, t, -, rfl, -, -⟩
  · exact ⟨_, List.mem_cons_self ..⟩
  · exact ⟨_, List.mem_cons_self ..⟩
/-- what stands when the text is drawn -/
inductive LawMid0 (g : Heap) (L tab : Addr) (s : Shared) : Flow → Shared → Prop
  | mk (h : Heap) (tk : Nat) (mm : Str → Option Value) (dn : Str) (td : Tok) (oc : Obj) (F : Fr g L h mm) (N : News g L h [(L + 1, oc), (tab, tabObj #[])]) (hoc : oc.data = .cell (some (.str dn td))) (hd : Good 40 dn) : LawMid0 g L tab s .next { s with heap := h, toks := tk }
/-- what stands when the replies are built -/
inductive LawMid (g : Heap) (L tab : Addr) (s : Shared) : Flow → Shared → Prop
  | mk (h : Heap) (tk : Nat) (mm : Str → Option Value) (dn : Str) (td : Tok) (oc : Obj) (v1 v2 v3 : List Value) (n1 n2 n3 : Nat) (B1 B2 B3 : Addr) (F : Fr g L h mm)
    (N : News g L h [(B3, W.listOf v3.toArray n3), (B2, W.listOf v2.toArray n2), (B1, W.listOf v1.toArray n1), (L + 1, oc), (tab, tabObj #[])]) (hoc : oc.data = .cell (some (.str dn td)))
    (h1 : mm (Str.ofString "bare") = some (.ref B1)) (h2 : mm (Str.ofString "ended") = some (.ref B2)) (h3 : mm (Str.ofString "framed") = some (.ref B3)) (hg : ∀ v ∈ v1 ++ v2 ++ v3, StrG 120 v) (hd : Good 40 dn) (hv1 : v1.length ≤ 200) (hv2 : v2.length ≤ 200) (hv3 : v3.length ≤ 200) :
    LawMid g L tab s .next { s with heap := h, toks := tk }
/-- the loop over the replies -/
inductive LawLoop (P a b : Addr) (g : Heap) (L I R : Addr) (vs : List Value) (oc : Obj) (s : Shared) : Nat → Shared → Prop
  | mk (h : Heap) (tk : Nat) (m : Str → Option Value) (i : Nat) (oI : Obj) (tl : List (Addr × Obj)) (hi : i ≤ vs.length) (hI : IsLI R i oI) (F : Fr g L h m) (N : News g L h ((I, oI) :: (R, W.listOf vs.toArray 0) :: (L + 1, oc) :: tl)) (ht : Tabs P a b tl) (hne : ∀ q ∈ tl, q.1 ≠ I) :
    LawLoop P a b g L I R vs oc s (vs.length - i) { s with heap := h, toks := tk }
section
variable {g h : Heap} {L : Addr} {a b c d e t : List (Addr × Obj)}
theorem mem3 {q : Addr × Obj} {M : List (Addr × Obj)} (h1 : ∀ q ∈ a, q ∈ M) (h2 : ∀ q ∈ b, q ∈ M) (hq : q ∈ a ++ b) : q ∈ M := (List.mem_append.mp hq).elim (h1 q) (h2 q)
theorem news_n11 (N : News g L h (a ++ (b ++ c ++ d))) : News g L h (b ++ (a ++ (c ++ d))) := news_sub N fun q hq => by
  simp only [List.mem_append] at hq ⊢
  rcases hq with h | h | h | h <;> simp [h]
theorem news_n12 (N : News g L h (e ++ t ++ (a ++ (c ++ d)))) : News g L h (a ++ (t ++ c ++ d ++ e)) := news_sub N fun q hq => by
  simp only [List.mem_append] at hq ⊢
  rcases hq with h | ((h | h) | h) | h <;> simp [h]
theorem news_n13 (N : News g L h (a ++ (t ++ c ++ d ++ e))) : News g L h (t ++ (a ++ (c ++ d ++ e))) := news_sub N fun q hq => by
  simp only [List.mem_append] at hq ⊢
  rcases hq with h | h | (h | h) | h <;> simp [h]
theorem news_n17 {p p1 : Addr × Obj} (N : News g L h (p :: (e ++ t ++ (p1 :: b ++ d)))) : News g L h (b ++ t) := news_sub N fun q hq => by
  simp only [List.mem_append, List.mem_cons] at hq ⊢
  rcases hq with h | h <;> simp [h]
theorem plain_app (h1 : ∀ q ∈ a, Plain q.2) (h2 : ∀ q ∈ b, Plain q.2) : ∀ q ∈ a ++ b, Plain q.2 := fun q hq => (List.mem_append.mp hq).elim (h1 q) (h2 q)
theorem plain_cons {p : Addr × Obj} (h1 : Plain p.2) (h2 : ∀ q ∈ b, Plain q.2) : ∀ q ∈ p :: b, Plain q.2 := List.forall_mem_cons.mpr ⟨h1, h2⟩
end
theorem all_ne {q : Addr × Obj} {p : Addr} (h : @LT.lt Nat _ q.1 p) : q.1 ≠ p := Nat.ne_of_lt h
theorem bare_heads (t1 t2 t3 t4 t5 t6 t7 t8 t9 t10 t11 t12 : Tok) : ∀ v ∈ [Value.str (Str.ofString "257 \"") t1, .str (Str.ofString "257-\"") t2, .str (Str.ofString "257  \"") t3, .str (Str.ofString "257 ") t4, .str (Str.ofString "25") t5, .str (Str.ofString "22") t6, .str (Str.ofString "157 \"") t7, .str (Str.ofString "329 (|") t8, .str (Str.ofString "219 (|") t9, .str (Str.ofString "228 (|") t10, .str (Str.ofString "229 ") t11, .str (Str.ofString "229 (|") t12], StrG 10 v := by
  have h : ∀ x ∈ ["257 \"", "257-\"", "257  \"", "257 ", "25", "22", "157 \"", "329 (|", "219 (|", "228 (|", "229 ", "229 (|"], (Str.ofString x).length ≤ 10 ∧ PyData.strOk (Str.ofString x) = true := by decide +kernel
  simp only [List.forall_mem_cons] at h ⊢
  exact ⟨.mk _ _ h.1, .mk _ _ h.2.1, .mk _ _ h.2.2.1, .mk _ _ h.2.2.2.1, .mk _ _ h.2.2.2.2.1, .mk _ _ h.2.2.2.2.2.1, .mk _ _ h.2.2.2.2.2.2.1, .mk _ _ h.2.2.2.2.2.2.2.1, .mk _ _ h.2.2.2.2.2.2.2.2.1, .mk _ _ h.2.2.2.2.2.2.2.2.2.1, .mk _ _ h.2.2.2.2.2.2.2.2.2.2.1, .mk _ _ h.2.2.2.2.2.2.2.2.2.2.2.1, List.forall_mem_nil _⟩
theorem ended_ok {dn : Str} (hdn : Good 40 dn) (t1 t2 t3 t4 t5 : Tok) : ∀ v ∈ [Value.str (Str.ofString "257 \"" ++ dn ++ Str.ofString "\"\"6\"4") t1, .str (Str.ofString "229 (||" ++ dn ++ Str.ofString ")") t2, .str (Str.ofString "229 (||" ++ dn ++ Str.ofString "|)") t3, .str (Str.ofString "257") t4, .str (Str.ofString "229") t5], StrG 120 v := by
  have h : ∀ x ∈ ["257 \"", "\"\"6\"4", "229 (||", ")", "|)", "257", "229"], (Str.ofString x).length ≤ 10 ∧ PyData.strOk (Str.ofString x) = true := by decide +kernel
  simp only [List.forall_mem_cons] at h
  have up : ∀ {x : Str}, Good (10 + 40 + 10) x → Good 120 x := fun h => h.up (by decide)
  have up1 : ∀ {x : Str}, Good 10 x → Good 120 x := fun h => h.up (by decide)
  exact List.forall_mem_cons.mpr ⟨.mk _ _ (up ((Good.app h.1 hdn).app h.2.1)), List.forall_mem_cons.mpr ⟨.mk _ _ (up ((Good.app h.2.2.1 hdn).app h.2.2.2.1)), List.forall_mem_cons.mpr ⟨.mk _ _ (up ((Good.app h.2.2.1 hdn).app h.2.2.2.2.1)), List.forall_mem_cons.mpr ⟨.mk _ _ (up1 h.2.2.2.2.2.1), List.forall_mem_cons.mpr ⟨.mk _ _ (up1 h.2.2.2.2.2.2.1), List.forall_mem_nil _⟩⟩⟩⟩⟩
theorem framed_ok {c : Nat} {x dn : Str} (hx : Good 82 x) (hc : c ∈ x.cps.toList) (hd : Good 40 dn) : Good 1 (⟨#[c]⟩ : Str) ∧ Good 120 (Str.ofString "229 )(" ++ ⟨#[c]⟩ ++ dn ++ ⟨#[c]⟩ ++ Str.ofString ") ()") := by
  have gc : Good 1 (⟨#[c]⟩ : Str) := good_of.mpr ⟨Nat.le_refl _, fun a ha => by
    obtain rfl : a = c := by simpa using ha
    exact (good_of.mp hx).2 a hc⟩
  have g5 : Good 6 (Str.ofString "229 )(") := ⟨by decide +kernel, by decide +kernel⟩
  have g6 : Good 6 (Str.ofString ") ()") := ⟨by decide +kernel, by decide +kernel⟩
  exact ⟨gc, ((((g5.app gc).app hd).app gc).app g6).up (by decide)⟩
theorem marks_ok {dn : Str} (hdn : Good 40 dn) : Good 82 (Str.ofString "|\"" ++ Txt.slice dn none (some 1) ++ Txt.slice dn (some (-1)) none) := ((show Good 2 (Str.ofString "|\"") from ⟨by decide +kernel, by decide +kernel⟩).app (good_cut _ _ hdn)).app (good_cut _ _ hdn)
theorem end64 (k : Nat) : Good 2 (Txt.slice (Str.ofString "64") (some (((k : Nat) : Int).fdiv 2)) none) := by
  rw [show ((k : Nat) : Int).fdiv 2 = ((k / 2 : Nat) : Int) from by rw [fdiv_two]; omega]
  have h2 := slice_sn (Str.ofString "64") (k / 2)
  refine good_slice (x := Str.ofString "64") (good_of.mpr (by decide +kernel)) ?_ ?_
  · intro c hc; rw [h2] at hc; exact List.mem_of_mem_drop hc
  · rw [h2, List.length_drop]; exact Nat.sub_le ..
theorem drawn_ok {j1 j2 s64 : Str} (h1 : Good 3 j1) (h2 : Good 15 j2) (h3 : Good 2 s64) : Good 40 (j1 ++ Str.ofString "6|a\"\"b |" ++ j2 ++ s64) ∧ (j1 ++ Str.ofString "6|a\"\"b |" ++ j2).length ≤ 60 := by
  have h := (h1.app (show Good 9 (Str.ofString "6|a\"\"b |") from ⟨by decide +kernel, by decide +kernel⟩)).app h2
  exact ⟨(h.app h3).up (by decide), Nat.le_trans h.1 (by decide)⟩
theorem sizeL {n k : Nat} (h : n ≤ k) (hk : Nat.ble k 16777216 = true) : n ≤ sizeLine := by rw [PySem.sizeLine_eq]; exact Nat.le_trans h (Nat.le_of_ble_eq_true hk)
theorem drop_le {α : Type} {l : List α} {k n : Nat} (h : l.length ≤ n) : (l.drop k).length ≤ n := Nat.le_trans (by rw [List.length_drop]; exact Nat.sub_le ..) h
theorem take_le {α : Type} {l : List α} {k : Nat} : (l.take k).length ≤ k := by rw [List.length_take]; exact Nat.min_le_left ..
theorem sum_fit {n k : Nat} {ss : List Str} (h : ∀ y ∈ ss, Good n y) (hk : ss.length ≤ k) (hf : Nat.ble (n * k + k * 64) 16777216 = true) : (ss.map (·.length)).sum + ss.length * 64 ≤ 16777216 := Nat.le_trans (Nat.add_le_add (Nat.le_trans (sum_good _ h) (Nat.mul_le_mul_left _ hk)) (Nat.mul_le_mul_right _ hk)) (Nat.le_of_ble_eq_true hf)
set_option maxRecDepth 100000 in
set_option maxHeartbeats 8000000 in
theorem law1 : PySem.Challenge.rw_pm0015_01.Holds := Mine.hd (by
  k_fill
  intro w s₀ s₁ mg mb G Y fa o pm cd doc dV kV ho hd hcd hD hmg hg args vals as hpre hlay hrd hwl hlo
  obtain rfl : kV = .none := hD.noKw
  obtain rfl : dV = .none := hD.pos.elim (·.2) fun y => absurd rfl y.1
  have KX := km_in_of Y
  have KT := km_tabs_of Y
  have X := (Ground.X G).1
  have V := (Ground.X G).2
  refine Ground.open G ?_
  intro T B D TE TW
  try (refine guard_noD D (by decide +kernel) ?_; clear D)
  wrow_args hpre hlay hrd hwl hlo
  have hT9 : TabsAt [((127 : Addr), (123 : Addr))] s₁.heap := fun q hq => by
    rw [List.mem_singleton.mp hq]
    exact ⟨codeHd_of_K KX (by kernel_rfl), KT _ (List.mem_cons_self ..)⟩
  (with_reducible rename List Value => vs)
  (with_reducible rename List Int => ns)
  (with_reducible rename IntsAre _ _ => hI)
  (with_reducible rename s₁.heap.IsList _ _ => hL)
  (with_reducible rename ¬ ((63 : Nat) : Int) < _ => hns)
  have hsl := ghost_list hT9 hL
  refine wpP_call ?_
  refine' lawT_at (K := Mine.hd.heap_39 w.params) (post := LawPost 123 96 18) (own := [((123 : Addr), tabObj #[])]) (base := hid s₁.heap [((123 : Addr), tabObj #[])]) (dp := 301) (un := 4) (gd := some []) (fr := []) (below_caller _) (ghost_K hT9 KX (by kernel_rfl)) (ghost_top hT9 T) (fun _ h => nomatch h) (by decide) ?hown ?hret ho hd hcd (fun _ => BindsTo.of_eq rfl) rfl ?hnd rfl rfl rfl ?_
  (case hnd => dsimp only [docDef]; decide +kernel)
  (case hown =>
    intro q hq
    rw [List.mem_singleton.mp hq]; exact KT _ (List.mem_cons_self ..))
  (case hret =>
    rintro v s' own' r ⟨rfl, ht⟩
    obtain ⟨ps, hps⟩ := ht.grown
    dsimp only
    refine good_law (d := ofPy (.bool true)) (as := []) hT9 (fun _ => rfl) ?_ ?_ (fun _ => ⟨List.nodup_nil, fun _ h => nomatch h⟩) ?_ ⟨⟨ps, r.at_ _ hps⟩, trivial⟩ ?_ ?_
    · exact .bool true
    · first | rfl | kernel_rfl
    · intro b o hb e
      obtain ⟨g', T', k'⟩ := r.turn
      exact k' _ _ (T'.other b o (hideAll_get _ e hb) (fun h => nomatch h))
    · rw [r.same]
    · rw [r.same]; exact .of_eq hg)
  clear ho hd hcd hD hmg hg KX KT X V T B TE TW hT9 hL G Y
  (try (with_reducible rename ReadsAllW _ _ _ _ _ _ => z1; clear z1))
  (try (with_reducible rename ReadsAll _ _ _ _ => z1; clear z1))
  (try (with_reducible rename Reads _ _ _ _ => z1; clear z1))
  (try (with_reducible rename Well _ _ _ _ => z1; clear z1))
  (try clear GL)
  dsimp only [docDef]
  intro g L h₁ tk cells hgg B F N Y XB TB X T hlt D
  k_cells Y
  rw [show ghostOf s₁.heap [((127 : Addr), (123 : Addr))] = g from hgg.symm] at hsl
  (try dsimp only)
  (try simp only [List.cons_append, List.nil_append] at N)
  refine wpP_split 2 ?_
  dsimp only [List.take, List.drop]
  refine wpAny_mono (Q := LawMid0 g L 123 s₁) ?frontA ?rest (fun _ _ e => e)
  (case rest =>
    clear F N
    rintro fl s' ⟨h2, tk2, mm, dn, td, oc, F1, N1, hoc, hdn⟩
    dsimp only
    refine wpP_split 3 ?_
    dsimp only [List.take, List.drop]
    refine wpAny_mono (Q := fun fl s' => LawMid g L 123 s₁ fl s') (E := noE) ?frontB ?back ?e3
    (case e3 => exact fun _ _ e => e.elim)
    (case back =>
      clear F1 N1 hoc hdn
      rintro fl s' ⟨h2, tk2, mm, dn, td, oc, v1, v2, v3, n1, n2, n3, B1, B2, B3, F1, N1, hoc, hm1, hm2, hm3, hgd, hdn, hv1, hv2, hv3⟩
      dsimp only
      refine wpP_execs_cons (wpP_For ?_)
      (((try dsimp only); (with_reducible show wpAny _ _ _ _ _ _); k_fold))
      k_steps
      try any_goals (first | exact Str.empty | exact Value.none | exact (0 : Nat))
      (try unfold Hold)
      rename_i hA fA nA hB F2 N2
      clear fA nA
      generalize hA.objs.size = R at N2 ⊢
      refine iter_listN F2 N2 (its := (v1 ++ v2 ++ v3).toArray) (nc := 0) (List.mem_cons_self ..) ?_
      intro I oI h3 hI F3 N3 l3
      replace N3 := news_pick (M := (I, oI) :: (R, W.listOf (v1 ++ v2 ++ v3).toArray 0) :: (L + 1, oc) :: [((123 : Addr), tabObj #[])]) N3 [0, 1, 6, 7] rfl
      have l3R : R ≠ I := all_ne (l3 _ (List.mem_cons_self ..))
      have l3c : L + 1 ≠ I := all_ne (l3 (L + 1, oc) (by k_mem))
      have l3t : (123 : Addr) ≠ I := all_ne (l3 (123, tabObj #[]) (by k_mem))
      clear l3
      have hvl : (v1 ++ v2 ++ v3).length ≤ 600 := by rw [List.length_append, List.length_append]; exact Nat.add_le_add (Nat.add_le_add hv1 hv2) hv3
      generalize v1 ++ v2 ++ v3 = vs9 at N3 hgd hvl
      dsimp only
      refine codeP_forLoop (fun k s' => LawLoop 123 96 18 g L I R vs9 oc s₁ k s') ?_ vs9.length (.mk h3 _ _ 0 oI _ (Nat.zero_le _) hI F3 N3 (.inl rfl) (fun q hq => by rw [List.mem_singleton.mp hq]; exact l3t)) (fun _ => rfl)
      clear F3 N3 F2 N2 hI oI
      rintro k s' ⟨h, tk, m, i, oI, tl, hi, hI, F, N, htl, hne⟩
      refine next_list (env := envOf ⟨#[]⟩ { kind := .function, names := [], isGenerator := false, isCoroutine := false } L 0 .none) rfl F N hI ⟨_, (N (R, W.listOf vs9.toArray 0) (List.mem_cons_of_mem _ (List.mem_cons_self ..))).1, rfl, 0, rfl⟩ (fun q hq => by
        rcases List.mem_cons.mp hq with rfl | hq
        · exact l3R
        · rcases List.mem_cons.mp hq with rfl | hq
          · exact l3c
          · exact hne q hq) ?_ ?_
      · intro v h' oI' hv hI' F N
        rw [List.getElem?_toArray] at hv
        have hil := (List.getElem?_eq_some_iff.mp hv).1
        obtain ⟨y, u, hy⟩ := hgd v (List.mem_of_getElem? hv)
        clear hv
        dsimp only
        refine wpAny_assign_Name ?_
        k_fold
        k_steps
        try any_goals (first | exact Str.empty | exact Value.none | exact (0 : Nat))
        (try unfold Hold)
        refine wpP_execs_cons (wpP_If (wpP_isTrue_Compare1 (wpP_List (wpP_spliced_more (wpP_Call ?_)))))
        k_fold
        k_steps
        (try unfold Hold)
        (with_reducible rename Fr _ _ _ _ => F5)
        (with_reducible rename News _ _ _ _ => N5)
        have hyl := hy.1
        have hys : ∀ c ∈ y.cps.toList, c < 16 ^ 8 := fun c hc => Nat.lt_trans ((good_of.mp hy).2 c hc) (by decide)
        have hdl := hdn.1
        have hIp : Plain oI' := .inr (.inr ⟨_, _, hI'⟩)
        have hcp : Plain oc := .inr (.inl ⟨_, hoc⟩)
        clear F N
        refine wpP_callWith_fn1 ?_
        k_fold
        k_steps
        try any_goals (first | exact Str.empty | exact Value.none | exact (0 : Nat))
        (try unfold Hold)
        refine' ⟨fn_at (f := 159) X F5 ?k6, ?_⟩
        (case k6 => k_is)
        refine ctrT_use0 (own := []) (rest := (I, oI') :: (R, W.listOf vs9.toArray 0) :: (L + 1, oc) :: tl) ((name_k w y u (Nat.le_trans hyl (by decide))).mono fun _ _ h => name_datP h) B F5 XB TB D N5 rfl rfl (by decide) (by decide) (fun _ _ h => nomatch h) ?_
        rintro a1 o1 h6 tk6 ⟨hd1, hpl1⟩ F7 N7
        clear F5 N5
        obtain ⟨rs, hrs⟩ : ∃ rs, rs = tl ++ o1 := ⟨_, rfl⟩
        replace N7 : News g L h6 ((I, oI') :: (R, W.listOf vs9.toArray 0) :: (L + 1, oc) :: rs) := hrs ▸ news_swap N7
        dsimp only
        refine wpP_spliced_more (wpP_Call ?_)
        k_fold
        k_steps
        (try unfold Hold)
        refine wpP_callWith_fn2 ?_
        k_fold
        k_steps
        try any_goals (first | exact Str.empty | exact Value.none | exact (0 : Nat))
        (try unfold Hold)
        (with_reducible rename Fr _ _ _ _ => F8)
        (with_reducible rename News _ _ _ _ => N8)
        (with_reducible rename _ ∧ _ => l8)
        refine' ⟨fn_at (f := 166) X F8 ?k6, ?_⟩
        (case k6 => k_is)
        refine ctrT_use0 (own := [(_, _)]) (rest := (I, oI') :: (R, W.listOf vs9.toArray 0) :: (L + 1, oc) :: rs) ((port_k w y u _ dn td _ (Nat.le_trans hyl (by decide)) hys).mono fun _ _ h => port_datP h) B F8 XB TB D N8 rfl rfl (by decide) (by decide) (fun q hq hm => by
          have hm := List.mem_singleton.mp hm
          rcases List.mem_cons.mp hq with rfl | hq
          · exact Nat.ne_of_lt l8.1 hm
          · rcases List.mem_cons.mp hq with rfl | hq
            · exact Nat.ne_of_lt l8.2.1 hm
            · rcases List.mem_cons.mp hq with rfl | hq
              · exact Nat.ne_of_lt l8.2.2.1 hm
              · exact Nat.ne_of_lt (allLt_mem l8.2.2.2 q hq) hm) ?_
        rintro a2 o2 h7 tk7 ⟨hd2, hpl2⟩ F10 N10
        clear F8 N8 l8
        replace N10 : News g L h7 ((I, oI') :: (R, W.listOf vs9.toArray 0) :: (L + 1, oc) :: (tl ++ o1 ++ o2)) := hrs ▸ news_swap N10
        dsimp only
        refine wpP_spliced_nil ⟨by rw [PySem.sizeLine_eq]; simp, ?_⟩
        have F11 := F10.push { cls := .type "list", data := .seq #[a1, a2] }
        have N11 := N10.push F10 { cls := .type "list", data := .seq #[a1, a2] }
        clear F10 N10
        (try dsimp only)
        generalize hP1 : h7.objs.size = P1 at N11 ⊢
        generalize h7.push { cls := .type "list", data := .seq #[a1, a2] } = h8 at F11 N11 ⊢
        refine wpP_List (wpP_spliced_more (wpP_any ?_))
        k_fold
        k_steps
        try any_goals (first | exact Str.empty | exact Value.none | exact (0 : Nat))
        (try unfold Hold)
        have hpl0 := plain_cons (p := (P1, ({ cls := .type "list", data := .seq #[a1, a2] } : Obj))) (.inl ⟨_, _, rfl⟩) (plain_cons (p := (I, oI')) hIp (plain_cons (p := (R, W.listOf vs9.toArray 0)) (.inl ⟨_, _, rfl⟩) (plain_cons (p := (L + 1, oc)) hcp (plain_app hpl1 hpl2))))
        replace N11 := news_n11 (a := [(P1, ({ cls := .type "list", data := .seq #[a1, a2] } : Obj)), (I, oI'), (R, W.listOf vs9.toArray 0), (L + 1, oc)]) N11
        refine ctr_use ((duename_k w tl htl y u (Nat.le_trans hyl (by decide))).mono fun _ _ h => due_dat h) B F11 X T D N11 rfl rfl (by decide) (by decide) (fun q hq => tab_apart htl N11 (fun q hq => List.mem_append_left _ hq) q (List.mem_append_right _ hq) (hpl0 q hq)) ?_
        rintro a3 o3 h12 tk12 ⟨tl2, ex1, _, htl2, hd3, hpl3⟩ F12 N12 _
        clear F11 N11
        obtain ⟨rs2, hrs2⟩ : ∃ rs2, rs2 = tl2 ++ o1 ++ o2 ++ ex1 := ⟨_, rfl⟩
        replace N12 : News g L h12 ((P1, ({ cls := .type "list", data := .seq #[a1, a2] } : Obj)) :: (I, oI') :: (R, W.listOf vs9.toArray 0) :: (L + 1, oc) :: rs2) := hrs2 ▸ news_n12 (a := [(P1, ({ cls := .type "list", data := .seq #[a1, a2] } : Obj)), (I, oI'), (R, W.listOf vs9.toArray 0), (L + 1, oc)]) N12
        dsimp only
        refine wpP_spliced_more (wpP_Call ?_)
        k_fold
        k_steps
        (try unfold Hold)
        refine wpP_callWith_fn2 ?_
        k_fold
        k_steps
        try any_goals (first | exact Str.empty | exact Value.none | exact (0 : Nat))
        (try unfold Hold)
        (with_reducible rename Fr _ _ _ _ => F13)
        (with_reducible rename News _ _ _ _ => N13)
        refine' ⟨fn_at (f := 152) X F13 ?k6, ?_⟩
        (case k6 => k_is)
        have hpl4 := plain_cons (p := (P1, ({ cls := .type "list", data := .seq #[a1, a2] } : Obj))) (.inl ⟨_, _, rfl⟩) (plain_cons (p := (I, oI')) hIp (plain_cons (p := (R, W.listOf vs9.toArray 0)) (.inl ⟨_, _, rfl⟩) (plain_cons (p := (L + 1, oc)) hcp (plain_app (plain_app hpl1 hpl2) hpl3))))
        replace N13 := news_n13 (a := [(P1, ({ cls := .type "list", data := .seq #[a1, a2] } : Obj)), (I, oI'), (R, W.listOf vs9.toArray 0), (L + 1, oc)]) (hrs2 ▸ N13)
        refine ctrT_use0 ((dueport_k w tl2 htl2 y dn u td (Nat.le_trans hyl (by decide)) hys).mono fun _ _ h => dueport_dat h) B F13 XB TB D N13 rfl rfl (by decide) (by decide) (fun q hq => tab_apart htl2 N13 (fun q hq => List.mem_append_left _ hq) q (List.mem_append_right _ hq) (hpl4 q hq)) ?_
        rintro a4 o4 h14 tk14 ⟨tl3, ex2, _, htl3, hd4, hpl5⟩ F15 N15
        clear F13 N13
        dsimp only
        refine wpP_spliced_nil ⟨by rw [PySem.sizeLine_eq]; simp, ?_⟩
        have F16 := F15.push { cls := .type "list", data := .seq #[a3, a4] }
        have N16 := N15.push F15 { cls := .type "list", data := .seq #[a3, a4] }
        clear F15 N15
        (try dsimp only)
        generalize hP2 : h14.objs.size = P2 at N16 ⊢
        generalize h14.push { cls := .type "list", data := .seq #[a3, a4] } = h16 at F16 N16 ⊢
        have hyo := hy.2
        have hdo := hdn.2
        have hok : ∀ d ∈ [nameD y, portD y dn], PySem.W.kqdOk 8 d = true := fun d hd => by
          rcases List.mem_cons.mp hd with rfl | hd
          · exact name_ok hyo
          · rw [List.mem_singleton.mp hd]; exact port_ok hyo hdo
        refine kqd_same (n₁ := o1 ++ o2) (n₂ := ex1 ++ ex2) (xs := [a1, a2]) (ys := [a3, a4]) (ds := [nameD y, portD y dn]) N16 (oa := { cls := .type "list", data := .seq #[a1, a2] }) (ob := { cls := .type "list", data := .seq #[a3, a4] }) (List.mem_cons_of_mem _ (List.mem_append_right _ (List.mem_cons_self ..))) rfl rfl
          (.cons (PySem.W.DatIn.mono (fun q hq => List.mem_append_left _ hq) hd1) (.cons (PySem.W.DatIn.mono (fun q hq => List.mem_append_right _ hq) hd2) .nil)) (fun q hq => List.mem_cons_of_mem _ (List.mem_append_right _ (List.mem_append_right _ (List.mem_append_left _ hq))))
          (List.mem_cons_self ..) rfl rfl
          (.cons (PySem.W.DatIn.mono (fun q hq => List.mem_append_left _ hq) hd3) (.cons (PySem.W.DatIn.mono (fun q hq => List.mem_append_right _ hq) hd4) .nil)) (fun q hq => List.mem_cons_of_mem _ ((List.mem_append.mp hq).elim (fun hq => List.mem_append_right _ (List.mem_append_right _ (List.mem_append_right _ hq))) (fun hq => List.mem_append_left _ (List.mem_append_left _ hq)))) hok (by show 4 + 3 + 64 < cLine; decide) ?_
        have N17 : News g L h16 ((I, oI') :: (R, W.listOf vs9.toArray 0) :: (L + 1, oc) :: tl3) := news_n17 (b := [(I, oI'), (R, W.listOf vs9.toArray 0), (L + 1, oc)]) N16
        have hI9 := tab_apart htl3 N17 (fun q hq => List.mem_cons_of_mem _ (List.mem_cons_of_mem _ (List.mem_cons_of_mem _ hq))) (I, oI') (List.mem_cons_self ..) hIp
        refine wpAny_truthy_bool ?_
        rw [if_neg Bool.false_ne_true]
        refine wpP_any (wpAny_execs_nil ?_)
        dsimp only
        refine wpP_any (wpAny_execs_nil ?_)
        dsimp only
        exact ⟨vs9.length - (i + 1), dn_turn hil, .mk _ _ _ (i + 1) oI' tl3 hil hI' F16 N17 htl3 fun q hq e => hI9 (List.mem_map.mpr ⟨q, hq, e⟩)⟩
      · intro h' hv F N
        dsimp only
        refine wpP_any ?_
        (((try dsimp only); (with_reducible show wpAny _ _ _ _ _ _); k_fold))
        k_steps
        (try unfold Hold)
        show LvT s₁ (fsOf []) g _ _ _
        exact ⟨g, L, _, tl, rfl, .refl, F, fun q hq => N q (List.mem_cons_of_mem _ (List.mem_cons_of_mem _ hq)), rfl, htl⟩)
    have hdl := hdn.1
    (((try dsimp only); (with_reducible show wpAny _ _ _ _ _ _); k_fold))
    k_steps
    try any_goals (first | exact Str.empty | exact Value.none | exact (0 : Nat))
    (try unfold Hold)
    refine' LCg.Assign_ListComp_U ?f0 ?a1 ?a2 ?a3 ?a4 ?a5 ?a6 ?a7 ?a8 ?a9 ?_ ?hs
    (case f0 => exact F1)
    (case a1 => rfl)
    (case a2 => with_unfolding_all rfl)
    (case a3 => with_unfolding_all rfl)
    (case a4 => decide)
    (case a5 => rfl)
    (case a6 => decide)
    (case a7 => rfl)
    (case a8 => rfl)
    (case a9 => rfl)
    (case hs => intro _; rfl)
    (((try dsimp only); (with_reducible show wpAny _ _ _ _ _ _); k_fold))
    k_steps
    try any_goals (first | exact Str.empty | exact Value.none | exact (0 : Nat))
    (try unfold Hold)
    (with_reducible rename Fr _ _ _ _ => F2)
    (with_reducible rename News _ _ _ _ => N2)
    (try dsimp only at N2)
    (try dsimp only)
    refine' LCg.CompSrc.ledger ?q1 ?q2 ?q3 ?q4 ?q5 ?_
    (case q2 => exact F2)
    (case q3 => exact N2)
    (case q1 => exact rfl)
    (case q4 => exact List.mem_cons_self ..)
    (case q5 => rw [PySem.sizeLine_eq]; simp)
    intro g2
    refine rest_map (fun _ v => StrG 120 v) ?_ (.inr ⟨_, List.mem_cons_self .., rfl, _, rfl⟩) ?_
    · intro i v ys I oI C oC D0 m₂ h tk E' hi hv hC hx F3 N3 off ne
      have hm := Array.mem_of_getElem? hv
      rw [Array.mem_def] at hm
      obtain ⟨hd9, u9, hg9⟩ := bare_heads _ _ _ _ _ _ _ _ _ _ _ _ v hm
      have hl9 := hg9.1
      clear F2 N2 hm hv
      (with_reducible show wpAny _ _ _ _ _ _)
      k_steps
      (try unfold Hold)
      exact ⟨_, _, F3, N3, .mk _ _ ((hg9.app hdn).up (by decide))⟩
    · intro ys hyl hys D3 h3 tk3 F3 N3 o3
      clear F2 N2
      obtain ⟨ss, hss, hsg⟩ := strs_good ys hys
      have N4 := news_pick (M := [(D3, LCg.lst ys), (L + 1, oc), (123, tabObj #[])]) N3 [0, 2, 3] rfl
      have hys0 := hys
      clear N3 hys
      (try dsimp only)
      (with_reducible show wpAny _ _ _ _ _ _)
      k_steps
      try any_goals (first | exact Str.empty | exact Value.none | exact (0 : Nat))
      (try unfold Hold)
      (with_reducible rename Fr _ _ _ _ => F5)
      (with_reducible rename News _ _ _ _ => N5)
      refine' assign_comp_text ?f0 ?a1 ?a2 ?a3 ?a4 ?a5 ?a6 ?a7 ?a8 ?a9 ?_ ?hs
      (case f0 => exact F5)
      (case a1 => rfl)
      (case a2 => with_unfolding_all rfl)
      (case a3 => with_unfolding_all rfl)
      (case a4 => decide)
      (case a5 => rfl)
      (case a6 => decide)
      (case a7 => rfl)
      (case a8 => rfl)
      (case a9 => rfl)
      (case hs => intro _; rfl)
      (((try dsimp only); (with_reducible show wpAny _ _ _ _ _ _); k_fold))
      k_steps
      try any_goals (first | exact Str.empty | exact Value.none | exact (0 : Nat))
      (try unfold Hold)
      (with_reducible rename Fr _ _ _ _ => F6)
      (with_reducible rename News _ _ _ _ => N6)
      have gt := marks_ok hdn
      generalize Str.ofString "|\"" ++ Txt.slice dn none (some 1) ++ Txt.slice dn (some (-1)) none = tx at gt ⊢
      refine ⟨tx, _, _, _, rfl, F6, N6, sizeL gt.1 rfl, ?_⟩
      intro g6
      refine rest_map (fun _ v => StrG 120 v) ?_ trivial ?_
      · rintro i v ys3 I oI C oC D0 m₂ h tk E' hi ⟨c, u, hc, rfl⟩ hC hx F7 N7 off ne
        clear F6 N6
        have gf := framed_ok gt (Array.mem_toList_iff.mpr (Array.mem_of_getElem? hc)) hdn
        have gcl := gf.1.1
        (with_reducible show wpAny _ _ _ _ _ _)
        k_steps
        (try unfold Hold)
        exact ⟨_, _, F7, N7, .mk _ _ gf.2⟩
      · intro ys3 hyl3 hys3 D9 h9 tk9 F8 N8 o8
        clear F6 N6
        (try dsimp only)
        (with_reducible show wpAny _ _ _ _ _ _)
        k_steps
        (try unfold Hold)
        show LawMid g L 123 s₁ _ _
        exact .mk _ _ _ dn td oc ys [_, _, _, _, _] ys3 _ 0 _ D3 _ D9 F8 N8 hoc (by rfl) (by rfl) (by rfl) (fun v hv => (List.mem_append.mp hv).elim (fun hv => (List.mem_append.mp hv).elim (fun hv => (List.getElem?_of_mem hv).elim fun i hi => hys0 i v hi) (fun hv => ended_ok hdn _ _ _ _ _ v hv)) (fun hv => (List.getElem?_of_mem hv).elim fun i hi => hys3 i v hi)) hdn (by rw [hyl]; show 12 ≤ 200; decide) (by show 5 ≤ 200; decide) (by rw [hyl3]; exact Nat.le_trans gt.1 (by decide)))
  k_fold
  k_steps
  unfold Hold
  (with_reducible rename Fr _ _ _ _ => F1)
  (with_reducible rename News _ _ _ _ => N1)
  refine LCg.Assign_ListComp_U (F₀ := F1) (by rfl) (by with_unfolding_all rfl) (by with_unfolding_all rfl) (by decide) (by rfl) (by decide) (by rfl) (by rfl) (by rfl) ?_
  (((try dsimp only); (with_reducible show wpAny _ _ _ _ _ _); k_fold))
  k_steps
  any_goals (first | exact Str.empty | exact Value.none | exact (0 : Nat))
  unfold Hold
  dsimp only
  have hvl : (slicePick vs.toArray none (some 5) none).toList.length ≤ 5 := by
    have h1 := (kmk_upto hI (show (0 : Int) ≤ 5 by decide)).length
    rw [h1, List.length_take]; exact Nat.min_le_left ..
  have hI5 := kmk_upto hI (show (0 : Int) ≤ 5 by decide)
  refine slice_anyN F1 N1 (hi := some 5) (by obtain ⟨o1, e1, r1⟩ := hsl; exact ⟨o1, F1.keep _ _ e1, r1⟩) .none (.int _ _) (by rw [List.size_toArray, hI.length, PySem.sizeLine_eq]; omega) ?_ (by with_unfolding_all rfl) (fun _ => rfl)
  intro D1 h2 F2 N2 l2
  generalize slicePick vs.toArray none (some 5) none = its at hvl hI5 N2
  refine' LCg.CompSrc.ledger ?q1 ?q2 ?q3 ?q4 ?q5 ?_
  (case q2 => exact F2)
  (case q3 => exact N2)
  (case q1 => exact rfl)
  (case q4 => exact List.mem_cons_self ..)
  (case q5 => rw [PySem.sizeLine_eq, ← Array.length_toList]; omega)
  intro g2
  refine rest_map (fun _ v => StrG 3 v) ?_ (.inr ⟨_, List.mem_cons_self .., rfl, _, rfl⟩) ?_
  · intro i v ys I oI C oC D0 m₂ h tk E' hi hv hC hx F3 N3 off ne
    obtain ⟨k, t, rfl, hk⟩ := IntsAre.at hI5 i v (by simpa using hv)
    clear F1 N1 F2 N2
    (with_reducible show wpAny _ _ _ _ _ _)
    k_steps
    unfold Hold
    refine ctr_use (own := []) (sign_k w k t) B F3 X T D N3 rfl rfl (by decide) (by decide) (fun _ _ h => nomatch h) ?_
    rintro v own' h5 tk5 ⟨y, u, hy⟩ F4 N4 _
    exact ⟨_, _, F4, N4, .mk y u hy⟩
  · intro ys hyl hys D3 h3 tk3 F3 N3 o3
    clear F1 N1 F2 N2
    obtain ⟨ss, hss, hsg⟩ := strs_good ys hys
    have hsl5 : ss.length ≤ 5 := by rw [← strs_len hss, hyl, ← Array.length_toList]; exact hvl
    clear hys
    have N4 := news_pick (M := [(D3, LCg.lst ys), (L + 1, _), (123, tabObj #[])]) N3 [0, 2, 3] rfl
    clear N3
    dsimp only
    (with_reducible show wpAny _ _ _ _ _ _)
    k_steps
    try any_goals (first | exact Str.empty | exact Value.none | exact (0 : Nat))
    (try unfold Hold)
    (try dsimp only)
    refine slice_anyN F3 N4 (lo := none) (hi := some 1) ⟨_, (N4 (D3, LCg.lst ys) (List.mem_cons_self ..)).1, rfl, _, rfl⟩ .none (.int _ _) (by rw [List.size_toArray, strs_len hss]; exact sizeL hsl5 rfl) ?_ (by with_unfolding_all rfl) (fun _ => rfl)
    rw [show slicePick ys.toArray (none) (some 1) none = (ys.take 1).toArray from slicePick_upto' ys.toArray 1]
    intro D4 h4 F5 N5 l5
    clear l5
    (with_reducible show wpAny _ _ _ _ _ _)
    k_steps
    unfold Hold
    (try dsimp only [List.cons_append, List.nil_append])
    have hg1 : ∀ y ∈ ss.take 1, Good 3 y := fun y hy => hsg y (List.mem_of_mem_take hy)
    have hl1 : (ss.take 1).length ≤ 1 := take_le
    refine join_listC (ys := ss.take 1) ⟨_, (N5 (D4, W.listOf _ 0) (List.mem_cons_self ..)).1, rfl, _, rfl⟩ (strs_take 1 hss) (by decide) (sum_fit hg1 hl1 rfl) ?_
    intro t1 k1
    have gj1 := Good.join hg1 hl1
    generalize Txt.join (Str.ofString "") (ss.take 1) = j1 at gj1 ⊢
    have jl1 := gj1.1
    replace N5 := news_pick (M := [(D3, LCg.lst ys), (L + 1, _), (123, tabObj #[])]) N5 [1, 2, 3] rfl
    clear F3 N4
    (with_reducible show wpAny _ _ _ _ _ _)
    k_steps
    try any_goals (first | exact Str.empty | exact Value.none | exact (0 : Nat))
    (try unfold Hold)
    (with_reducible rename Fr _ _ _ _ => F6)
    (with_reducible rename News _ _ _ _ => N6)
    (try dsimp only)
    refine slice_anyN F6 N6 (lo := some 1) (hi := none) ⟨_, (N6 (D3, LCg.lst ys) (List.mem_cons_self ..)).1, rfl, _, rfl⟩ (.int _ _) .none (by rw [List.size_toArray, strs_len hss]; exact sizeL hsl5 rfl) ?_ (by with_unfolding_all rfl) (fun _ => rfl)
    rw [show slicePick ys.toArray (some 1) (none) none = (ys.drop 1).toArray from slicePick_from' ys.toArray 1]
    intro D4 h4 F5 N5 l5
    clear l5
    (with_reducible show wpAny _ _ _ _ _ _)
    k_steps
    unfold Hold
    (try dsimp only [List.cons_append, List.nil_append])
    have hg2 : ∀ y ∈ ss.drop 1, Good 3 y := fun y hy => hsg y (List.mem_of_mem_drop hy)
    have hl2 : (ss.drop 1).length ≤ 5 := drop_le hsl5
    refine join_listC (ys := ss.drop 1) ⟨_, (N5 (D4, W.listOf _ 0) (List.mem_cons_self ..)).1, rfl, _, rfl⟩ (strs_drop 1 hss) (by decide) (sum_fit hg2 hl2 rfl) ?_
    intro t2 k2
    have gj2 := Good.join hg2 hl2
    generalize Txt.join (Str.ofString "") (ss.drop 1) = j2 at gj2 ⊢
    have jl2 := gj2.1
    replace N5 := news_pick (M := [(D3, LCg.lst ys), (L + 1, _), (123, tabObj #[])]) N5 [1, 2, 3] rfl
    (with_reducible show wpAny _ _ _ _ _ _)
    k_steps
    try any_goals (first | exact Str.empty | exact Value.none | exact (0 : Nat))
    (try unfold Hold)
    (with_reducible rename Fr _ _ _ _ => F7)
    (with_reducible rename News _ _ _ _ => N7)
    refine len_list ⟨_, (N7 (D3, LCg.lst ys) (by simp)).1, rfl, _, rfl⟩ (by rw [List.size_toArray, strs_len hss]; omega) ?_
    rw [show ys.toArray.size = ss.length from by rw [List.size_toArray, strs_len hss]]
    k_steps
    (try unfold Hold)
    have gs64 := end64 ss.length
    generalize Txt.slice (Str.ofString "64") (some (((ss.length : Nat) : Int).fdiv 2)) none = s64 at gs64 ⊢
    have gs64l := gs64.1
    have gdo := drawn_ok gj1 gj2 gs64
    have gdl := gdo.2
    k_steps
    try any_goals (first | exact Str.empty | exact Value.none | exact (0 : Nat))
    (try unfold Hold)
    (with_reducible rename Fr _ _ _ _ => F8)
    (with_reducible rename News _ _ _ _ => N8)
    (with_reducible rename _ = Data.cell _ => hcell)
    exact ⟨_, _, _, _, _, _, F8, news_pick N8 [1, 2] (M := [(L + 1, _), (123, tabObj #[])]) rfl, hcell, gdo.1⟩)
end
end
end Mine
set_option maxHeartbeats 4000000 in
theorem PySem.Challenge.cw_pm0015_01_holds : PySem.Challenge.rw_pm0015_01.Holds := by
  exact Mine.law1
